/-
  THE WALKS of zzIndentOutputFitsB1 (12), zzCloneBytesB1 (13), the two bounds on the arguments' length (10, 16), zzHasPrefixB1 (17).
-/
import Derived.Test.Qxb6603067aLWalk3
namespace Go.Proofs.Qxb6603067a
open Go.RowKit
open Plain

theorem fits_law {L D p i : Nat} (hp : p ≤ 1048576) (hi : 0 < i) (hD : (D : Int) ≤ 4194304 / (i : Int)) (hL : 0 < L) (h : wrap64 (1 + (p : Int) + wrap64 ((D : Int) * (i : Int))) ≤ 16777216 / (L : Int)) : L * (1 + p + D * i) ≤ 16777216 := by
  have hm : D * i ≤ 4194304 := by
    have h3 := (Int.le_ediv_iff_mul_le (by omega : (0 : Int) < (i : Int))).1 hD
    rw [← Int.natCast_mul] at h3
    omega
  have e1 : wrap64 ((D : Int) * (i : Int)) = ((D * i : Nat) : Int) := by
    rw [Int.natCast_mul]
    have : ((D * i : Nat) : Int) ≤ 4194304 := by omega
    rw [Int.natCast_mul] at this
    have h0 : (0 : Int) ≤ (D : Int) * (i : Int) := by rw [← Int.natCast_mul]; omega
    unfold wrap64
    omega
  rw [e1] at h
  have e2 : wrap64 (1 + (p : Int) + ((D * i : Nat) : Int)) = ((1 + p + D * i : Nat) : Int) := by
    unfold wrap64
    omega
  rw [e2] at h
  have h3 := (Int.le_ediv_iff_mul_le (by omega : (0 : Int) < (L : Int))).1 h
  have h4 : (((1 + p + D * i) * L : Nat) : Int) ≤ 16777216 := by rw [Int.natCast_mul]; exact h3
  rw [Nat.mul_comm]
  omega

theorem fits_law0 {L D p : Nat} (hL : 0 < L) (h : 1 + (p : Int) ≤ 16777216 / (L : Int)) : L * (1 + p + D * 0) ≤ 16777216 := by
  have h3 := (Int.le_ediv_iff_mul_le (by omega : (0 : Int) < (L : Int))).1 h
  have h4 : (((1 + p) * L : Nat) : Int) ≤ 16777216 := by rw [Int.natCast_mul]; simpa using h3
  rw [Nat.mul_comm]
  simp only [Nat.mul_zero, Nat.add_zero]
  omega

set_option maxRecDepth 10000 in
theorem fits_any (pre ind : ByteArray) (L D : Nat) (w : World) (hp : pre.size ≤ 1048576) (hi : ind.size ≤ 1048576) :
    Calls Try.prog 12 #[.string pre, .string ind, .int .i64 L, .int .i64 D] w fun x w' => ∃ b, x = .returned (.bool b) ∧ w' = w ∧ Hid (b = true → L * (1 + pre.size + D * ind.size) ≤ 16777216) := by
  by_cases hL0 : 0 < L
  · by_cases h0 : 0 < ind.size
    · go_enter Try.func12, Try.ntmps12
      go_wp2
      · go_ret
        exact ⟨_, rfl, rfl, fun h => absurd h (by decide)⟩
      · go_ret
        exact ⟨_, rfl, rfl, fun h => absurd h (by decide)⟩
      · go_ret
        refine ⟨_, rfl, rfl, fun _ => ?_⟩
        exact fits_law hp h0 (by assumption) hL0 (by assumption)
    · have h00 : ind.size = 0 := by omega
      go_enter Try.func12, Try.ntmps12
      go_wp2
      · go_ret
        exact ⟨_, rfl, rfl, fun h => absurd h (by decide)⟩
      · go_ret
        refine ⟨_, rfl, rfl, fun _ => ?_⟩
        rw [h00]
        exact fits_law0 hL0 (by assumption)
  · have hL00 : L = 0 := by omega
    subst hL00
    have HZ : Hid (0 * (1 + pre.size + D * ind.size) ≤ 16777216) := by show _ ≤ _; simp
    by_cases h0 : 0 < ind.size
    · go_enter Try.func12, Try.ntmps12
      go_wp2
      all_goals
        go_ret
        exact ⟨_, rfl, rfl, fun _ => HZ.out⟩
    · have h00 : ind.size = 0 := by omega
      go_enter Try.func12, Try.ntmps12
      go_wp2
      all_goals
        go_ret
        exact ⟨_, rfl, rfl, fun _ => HZ.out⟩

theorem Row.put {w : World} {g : Nat} {l : List Int} (h : Row w g l) (k : Nat) (z : Int) : Row (w.setCell ⟨g, k, none⟩ (.int .u8 z)) g (l.set k z) := by
  unfold Row at h ⊢
  simp only [World.setCell]
  rw [Array.getElem?_modify]
  simp [h]
theorem Row.frozen {w : World} {g : Nat} {l : List Int} (h : Row w g l) (k : Nat) : w.frozen? ⟨g, k, none⟩ = false := by
  unfold Row at h
  simp [World.frozen?, h]
theorem Row.drewN {w : World} {g : Nat} {l : List Int} (h : Row w g l) (n : Nat) : Row (w.drewN n) g l := h

theorem run_eq_slice_nil_any' (w : World) (a : Option Addr) (n c n' c' : Nat) :
    (binOp .eql 22 (.slice a n c) (.slice none n' c')).run Try.prog w = .ok (.bool a.isNone) w := by
  simp only [binOp]
  simp [Op.equal, Op.maxDepth, Lib.run_equalIn_slice_nil w 9999 22 5 a n c n' c' Try.underlying22]

theorem take_set {zs : List Int} {n k : Nat} (hz : zs.length = n) (hk : k < n) : (zs.take k ++ List.replicate (n - k) 0).set k (zs.getD k 0) = zs.take (k + 1) ++ List.replicate (n - (k + 1)) 0 := by
  have h1 : (zs.take k).length = k := by simp; omega
  rw [List.set_append, if_neg (by omega), h1, Nat.sub_self, show n - k = (n - (k + 1)) + 1 by omega, List.replicate_succ, List.set_cons_zero]
  have hk2 : k < zs.length := by omega
  have e : zs.take (k + 1) = zs.take k ++ [zs.getD k 0] := by rw [List.take_add_one, List.getElem?_eq_getElem hk2, List.getD_eq_getElem?_getD, List.getElem?_eq_getElem hk2]; rfl
  rw [e, List.append_assoc]
  rfl

set_option maxRecDepth 10000 in
set_option maxHeartbeats 1000000 in
theorem clone_some (b off n cap : Nat) (zs : List Int) (w : World) (hn : n ≤ 1048576) (hb : Bytes w w.heap.size (some ⟨b, off, none⟩) n zs) :
    Calls Try.prog 13 #[.slice (some ⟨b, off, none⟩) n cap] w fun x w' => x = .returned (.slice (some ⟨w.heap.size, 0, none⟩) n n) ∧ Row w' w.heap.size zs ∧ Below w.heap.size w w' := by
  have hnil := run_eq_slice_nil_any' w (some ⟨b, off, none⟩) n cap 0 0
  simp only [Option.isNone_some] at hnil
  have hzl := hb.1
  have HZ : Hid _ := hzl
  have HB : Hid _ := hb
  clear hb hzl
  go_enter Try.func13, Try.ntmps13
  go_wp2_with (at_make; refine wpList_make_bytes rfl _ _ rfl _ _ _ _ n rfl rfl (by omega) (by omega) (by omega) ?_; intro w1 hs1 hr1 hb1)
  obtain ⟨g, hg⟩ : ∃ g, g = w.heap.size := ⟨_, rfl⟩
  rw [← hg] at hr1 hb1 HB ⊢
  have HG : Hid _ := hg
  clear hg hnil
  go_loopw [4] (fun i wr => ∃ k : Nat, i = .int .i64 k ∧ k ≤ n ∧ Row wr g (zs.take k ++ List.replicate (n - k) 0) ∧ Below g w wr) (fun i _ => n - (intOf i).toNat)
  case atStart => exact ⟨0, rfl, Nat.zero_le _, by simpa using hr1, hb1⟩
  case round =>
    obtain ⟨k, rfl, hk, hr, hB⟩ := hrel
    clear hr1 hb1
    by_cases hlt : k < n
    · have hc1 : wr.cell? ⟨b, off + k, none⟩ = some (.int .u8 (zs.getD k 0)) := by
        rcases (Bytes.later HB.out hB (Nat.le_refl _)).2 with h0 | ⟨b', off', ha, _, hc⟩
        · omega
        · cases ha
          exact hc k hlt
      obtain ⟨z, hz⟩ : ∃ z, zs.getD k 0 = z := ⟨_, rfl⟩
      rw [hz] at hc1
      have HZ1 : Hid _ := hz
      clear hz
      have hl2 : Hid ((zs.take k ++ List.replicate (n - k) 0).length = n) := by show _ = _; simp; have := HZ.out; omega
      have hc2 : ∃ v, wr.cell? ⟨g, k, none⟩ = some v := ⟨_, hr.cell (by rw [hl2.out]; exact hlt)⟩
      obtain ⟨v, hc2⟩ := hc2
      have hf2 := hr.frozen k
      have hr2 : Row (wr.setCell ⟨g, k, none⟩ (.int .u8 z)) g (zs.take (k + 1) ++ List.replicate (n - (k + 1)) 0) := by
        have := hr.put k z
        rw [← HZ1.out, take_set HZ.out hlt] at this
        rw [← HZ1.out]
        exact this
      have HR : Hid _ := hr
      have HR2 : Hid _ := hr2
      clear hr hr2
      go_wp2
      go_roundw
      case rel => exact ⟨k + 1, by go_num, hlt, HR2.out, hB.setCell (Nat.le_refl _) _⟩
      case measure => simp [intOf]; omega
    · obtain rfl : k = n := by omega
      have hfin : Hid (zs.take k ++ List.replicate (k - k) 0 = zs) := by
        show _ = _
        have := HZ.out
        simp [List.take_of_length_le (show zs.length ≤ k by omega)]
      rw [hfin.out] at hr
      go_wp2
      go_ret
      have hg := HG.out
      subst hg
      exact ⟨rfl, hr, hB⟩
theorem clone_zero (ad : Addr) (cap : Nat) (w : World) :
    Calls Try.prog 13 #[.slice (some ad) 0 cap] w fun x w' => x = .returned (.slice (some ⟨w.heap.size, 0, none⟩) 0 0) ∧ Row w' w.heap.size [] ∧ Below w.heap.size w w' := by
  have hnil := run_eq_slice_nil_any' w (some ad) 0 cap 0 0
  simp only [Option.isNone_some] at hnil
  go_enter Try.func13, Try.ntmps13
  go_wp2_with (at_make; refine wpList_make_bytes rfl _ _ rfl _ _ _ _ 0 rfl rfl (by omega) (by omega) (by omega) ?_; intro w1 hs1 hr1 hb1)
  go_loop [4] (fun i => i = .int .i64 0) (fun _ => 0)
  case atStart => rfl
  case round =>
    subst hrel
    go_wp2
    go_ret
    exact ⟨rfl, hr1, hb1⟩

/-- a slice of bytes that came in, or was made here: nil; or an address, and the bytes -/
def In (w : World) (a : Option Addr) (n cap : Nat) (zs : List Int) : Prop := (a = none ∧ n = 0 ∧ cap = 0 ∧ zs = []) ∨ ∃ ad, a = some ad ∧ Bytes w w.heap.size (some ad) n zs
/-- its copy: nil; or a row of its own, the newest block of the old world's -/
def Cl (w w' : World) (a : Option Addr) (n cap : Nat) (zs : List Int) : Prop := (a = none ∧ n = 0 ∧ cap = 0 ∧ zs = []) ∨ (a = some ⟨w.heap.size, 0, none⟩ ∧ cap = n ∧ Row w' w.heap.size zs ∧ zs.length = n)

theorem clone_nil (w : World) : Calls Try.prog 13 #[.slice none 0 0] w fun x w' => x = .returned (.slice none 0 0) ∧ w' = w := by
  have hnil := run_eq_slice_nil_any' w none 0 0 0 0
  simp only [Option.isNone_none] at hnil
  go_enter Try.func13, Try.ntmps13
  go_wp2
  go_ret
  exact ⟨rfl, rfl⟩

theorem clone_any (a : Option Addr) (n cap : Nat) (zs : List Int) (w : World) (hn : n ≤ 1048576) (h : In w a n cap zs) :
    Calls Try.prog 13 #[.slice a n cap] w fun x w' => ∃ a' c', x = .returned (.slice a' n c') ∧ Cl w w' a' n c' zs ∧ Below w.heap.size w w' := by
  rcases h with ⟨rfl, rfl, rfl, rfl⟩ | ⟨ad, rfl, hb⟩
  · refine (clone_nil w).mono ?_
    rintro x w' ⟨rfl, rfl⟩
    exact ⟨none, 0, rfl, .inl ⟨rfl, rfl, rfl, rfl⟩, Below.refl _ _⟩
  · by_cases h0 : n = 0
    · subst h0
      obtain rfl : zs = [] := List.length_eq_zero_iff.1 hb.1
      refine (clone_zero ad cap w).mono ?_
      rintro x w' ⟨rfl, hr, hb'⟩
      exact ⟨_, _, rfl, .inr ⟨rfl, rfl, hr, rfl⟩, hb'⟩
    · rcases hb.2 with h1 | ⟨b, off, hab, h2, h3⟩
      · exact absurd h1 h0
      · cases hab
        refine (clone_some b off n cap zs w hn hb).mono ?_
        rintro x w' ⟨rfl, hr, hb'⟩
        exact ⟨_, _, rfl, .inr ⟨rfl, rfl, hr, hb.1⟩, hb'⟩

set_option maxRecDepth 10000 in
theorem bytes10 (a0 : Option Addr) (n0 c0 : Nat) (a1 : Option Addr) (n1 c1 : Nat) (pre ind : ByteArray) (w : World) (h0 : n0 ≤ maxLen) (h1 : n1 ≤ maxLen) (h2 : pre.size ≤ maxLen) (h3 : ind.size ≤ maxLen) :
    Calls Try.prog 10 #[.slice a0 n0 c0, .slice a1 n1 c1, .string pre, .string ind] w fun x w' => ∃ b, x = .returned (.bool b) ∧ w' = w := by
  unfold maxLen at h0 h1 h2 h3
  go_enter Try.func10, Try.ntmps10
  go_wp2
  all_goals
    go_ret
    exact ⟨_, rfl, rfl⟩
set_option maxRecDepth 10000 in
theorem bytes16 (a0 : Option Addr) (n0 c0 : Nat) (a1 : Option Addr) (n1 c1 : Nat) (pre ind : ByteArray) (w : World) (h0 : n0 ≤ maxLen) (h1 : n1 ≤ maxLen) (h2 : pre.size ≤ maxLen) (h3 : ind.size ≤ maxLen) :
    Calls Try.prog 16 #[.slice a0 n0 c0, .slice a1 n1 c1, .string pre, .string ind] w fun x w' => ∃ b, x = .returned (.bool b) ∧ w' = w := by
  unfold maxLen at h0 h1 h2 h3
  go_enter Try.func16, Try.ntmps16
  go_wp2
  all_goals
    go_ret
    exact ⟨_, rfl, rfl⟩
end Go.Proofs.Qxb6603067a
