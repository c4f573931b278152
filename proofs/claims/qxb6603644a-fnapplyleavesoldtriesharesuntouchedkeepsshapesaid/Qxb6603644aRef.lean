/-
  THE WALKS of zzRef (15) and of the field readers (25 .. 30).
-/
import Derived.Test.Qxb6603644aMake
namespace Go.Proofs.Qxb6603644a
open Go.RowKit Go.Shelf

/-- the hash that the law's other hashes are held against -/
def refZ (bs cs : List Z) : Int := if 0 < bs.length then (zAt bs 0).hash else if 0 < cs.length then (zAt cs 0).hash else 0

set_option maxRecDepth 10000 in
theorem ref_any (ao co : Option Addr) (b off n cap c off2 m cap2 : Nat) (bs cs : List Z) (w : World) (hao : n = 0 ∨ ao = some ⟨b, off, none⟩) (hco : m = 0 ∨ co = some ⟨c, off2, none⟩) (hn : bs.length = n) (hm : cs.length = m) (hb : ZRow w b off bs) (hc : ZRow w c off2 cs) :
    Calls Try.prog 15 #[.slice ao n cap, .slice co m cap2] w fun x w' => x = .returned (.int .u64 (refZ bs cs)) ∧ w' = w := by
  by_cases h0 : 0 < n
  · obtain rfl : ao = some ⟨b, off, none⟩ := hao.resolve_left (by omega)
    have e : refZ bs cs = (zAt bs 0).hash := by unfold refZ; rw [if_pos (by omega)]
    have r0 := hb 0 (by omega) 0 _ rfl
    simp only [Nat.zero_mul, Nat.add_zero] at r0
    rw [e]
    obtain ⟨h, hh⟩ : ∃ h, (zAt bs 0).hash = h := ⟨_, rfl⟩
    rw [hh] at r0 ⊢
    clear hb hc e hh hn hm hco
    go_enter Try.func15, Try.ntmps15
    go_wp2
    go_ret
    exact ⟨rfl, rfl⟩
  · obtain rfl : n = 0 := by omega
    by_cases h1 : 0 < m
    · obtain rfl : co = some ⟨c, off2, none⟩ := hco.resolve_left (by omega)
      have e : refZ bs cs = (zAt cs 0).hash := by unfold refZ; rw [if_neg (by omega), if_pos (by omega)]
      have r0 := hc 0 (by omega) 0 _ rfl
      simp only [Nat.zero_mul, Nat.add_zero] at r0
      rw [e]
      obtain ⟨h, hh⟩ : ∃ h, (zAt cs 0).hash = h := ⟨_, rfl⟩
      rw [hh] at r0 ⊢
      clear hb hc e hh hn hm hao
      go_enter Try.func15, Try.ntmps15
      go_wp2
      go_ret
      exact ⟨rfl, rfl⟩
    · obtain rfl : m = 0 := by omega
      have e : refZ bs cs = 0 := by unfold refZ; rw [if_neg (by omega), if_neg (by omega)]
      rw [e]
      clear hb hc e hn hm hao hco
      go_enter Try.func15, Try.ntmps15
      go_wp2
      go_ret
      exact ⟨rfl, rfl⟩

theorem children_any (g : Nat) (v : Option Addr) (w : World) (h : w.cell? ⟨g, 0, none⟩ = some (.pointer v)) : Calls Try.prog 25 #[.pointer (some ⟨g, 0, none⟩)] w fun x w' => x = .returned (.pointer v) ∧ w' = w := by
  go_enter Try.func25, Try.ntmps25
  go_wp2
  go_ret
  exact ⟨rfl, rfl⟩
theorem text_any (g : Nat) (s : ByteArray) (w : World) (h : w.cell? ⟨g, 3, none⟩ = some (.string s)) : Calls Try.prog 26 #[.pointer (some ⟨g, 0, none⟩)] w fun x w' => x = .returned (.string s) ∧ w' = w := by
  go_enter Try.func26, Try.ntmps26
  go_wp2
  go_ret
  exact ⟨rfl, rfl⟩
theorem count_any (g e n : Nat) (w : World) (h : w.cell? ⟨g, 2, none⟩ = some (.slice (some ⟨e, 0, none⟩) n n)) : Calls Try.prog 27 #[.pointer (some ⟨g, 0, none⟩)] w fun x w' => x = .returned (.int .i64 (n : Nat)) ∧ w' = w := by
  go_enter Try.func27, Try.ntmps27
  go_wp2
  go_ret
  exact ⟨rfl, rfl⟩
theorem end_any (g e n i j v : Nat) (w : World) (h : w.cell? ⟨g, 2, none⟩ = some (.slice (some ⟨e, 0, none⟩) n n)) (hi : i < n) (hj : j < 14) (hv : w.cell? ⟨e, i * 19 + 1 + j, none⟩ = some (.int .i64 (v : Nat))) :
    Calls Try.prog 28 #[.pointer (some ⟨g, 0, none⟩), .int .i64 (i : Nat), .int .i64 (j : Nat)] w fun x w' => x = .returned (.int .i64 (v : Nat)) ∧ w' = w := by
  go_enter Try.func28, Try.ntmps28
  go_wp2
  go_ret
  exact ⟨rfl, rfl⟩
theorem number_any (g e n i j : Nat) (v : Int) (w : World) (h : w.cell? ⟨g, 2, none⟩ = some (.slice (some ⟨e, 0, none⟩) n n)) (hi : i < n) (hj : j < 4) (hv : w.cell? ⟨e, i * 19 + 15 + j, none⟩ = some (.int .i64 v)) :
    Calls Try.prog 29 #[.pointer (some ⟨g, 0, none⟩), .int .i64 (i : Nat), .int .i64 (j : Nat)] w fun x w' => x = .returned (.int .i64 v) ∧ w' = w := by
  go_enter Try.func29, Try.ntmps29
  go_wp2
  go_ret
  exact ⟨rfl, rfl⟩
theorem hash_any (g e n i : Nat) (v : Int) (w : World) (h : w.cell? ⟨g, 2, none⟩ = some (.slice (some ⟨e, 0, none⟩) n n)) (hi : i < n) (hv : w.cell? ⟨e, i * 19, none⟩ = some (.int .u64 v)) :
    Calls Try.prog 30 #[.pointer (some ⟨g, 0, none⟩), .int .i64 (i : Nat)] w fun x w' => x = .returned (.int .u64 v) ∧ w' = w := by
  go_enter Try.func30, Try.ntmps30
  go_wp2
  go_ret
  exact ⟨rfl, rfl⟩
end Go.Proofs.Qxb6603644a
