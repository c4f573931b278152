/-
  THE WALKS of zzStrict (19) and zzRef (15).
-/
import Derived.Test.Qxb6603644aMake
namespace Go.Proofs.Qxb6603644a
open Go.RowKit Go.Shelf

/-- a bool that, where it is true, says p -/
def Says (p : Prop) (x : Ending) : Prop := ∃ r : Bool, x = .returned (.bool r) ∧ (r = true → p)
/-- each row is below the next -/
def Strict (zs : List Z) : Prop := ∀ j, j + 1 < zs.length → cmpZ (zAt zs j) (zAt zs (j + 1)) < 0

set_option maxRecDepth 10000 in
set_option maxHeartbeats 2000000 in
theorem strict_any (ao : Option Addr) (b off n cap : Nat) (zs : List Z) (w : World) (hao : n = 0 ∨ ao = some ⟨b, off, none⟩) (hn : zs.length = n) (hnb : n ≤ 16384) (hrow : ZRow w b off zs) :
    Calls Try.prog 19 #[.slice ao n cap] w fun x w' => Says (Strict zs) x ∧ Below w.heap.size w w' := by
  have HROW : Hid (ZRow w b off zs) := hrow
  have HN : Hid (zs.length = n) := hn
  have hu41 := Try.underlying41
  clear hrow hn
  go_enter Try.func19, Try.ntmps19
  go_wp2
  go_loopw [3] (fun i wr => ∃ q : Nat, 1 ≤ q ∧ q ≤ n + 1 ∧ i = .int .i64 q ∧ Hid (∀ j, j + 1 < q → cmpZ (zAt zs j) (zAt zs (j + 1)) < 0) ∧ Hid (Below w.heap.size w wr)) (fun i _ => n + 1 - (intOf i).toNat)
  case atStart => exact ⟨1, Nat.le_refl _, by omega, rfl, fun j hj => absurd hj (by omega), Below.refl _ _⟩
  case round =>
    obtain ⟨q, hq1, hq2, rfl, hall, hB⟩ := hrel
    by_cases hlt : q < n
    · obtain rfl : ao = some ⟨b, off, none⟩ := hao.resolve_left (by omega)
      obtain ⟨k, rfl⟩ : ∃ k, q = k + 1 := ⟨q - 1, by omega⟩
      have hx : wr.rangeAt b (off + k * 21) (encZ (zAt zs k)) := (HROW.out.later hB.out) k (by rw [HN.out]; omega)
      have hy : wr.rangeAt b (off + (k + 1) * 21) (encZ (zAt zs (k + 1))) := (HROW.out.later hB.out) (k + 1) (by rw [HN.out]; omega)
      obtain ⟨x, hxx⟩ : ∃ x, zAt zs k = x := ⟨_, rfl⟩
      obtain ⟨y, hyy⟩ : ∃ y, zAt zs (k + 1) = y := ⟨_, rfl⟩
      rw [hxx] at hx
      rw [hyy] at hy
      have HXX : Hid (zAt zs k = x) := hxx
      have HYY : Hid (zAt zs (k + 1) = y) := hyy
      clear hxx hyy
      have hwk : IntKind.i64.wrap (k : Int) = (k : Int) := by simp [IntKind.wrap, IntKind.bits, IntKind.signed]; omega
      have hkn : (k : Int) < (n : Int) := by omega
      have hkn1 : (k : Int) + 1 < (n : Int) := by omega
      have hkk : k < n := by omega
      have hk01 : (0 : Int) ≤ (k : Int) + 1 := by omega
      obtain ⟨c, hc⟩ : ∃ c, cmpZ x y = c := ⟨_, rfl⟩
      have hcall := fun w => cmpChange_any x y w
      rw [hc] at hcall
      have HC : Hid (cmpZ x y = c) := hc
      clear hc hu41
      unfold aggZ at hcall
      have hmx : Try.prog.follows .mixedOrders = true := by kernel_rfl
      go_wp2
      refine wp_region_held_drew (S := fun W5 => W5.rangeAt b (off + k * 21) (encZ x) ∧ W5.rangeAt b (off + (k + 1) * 21) (encZ y)) hmx ⟨hx, hy⟩ ?_
      intro hS0
      refine wpAnyH_take (i := 0) (v := ?v0) rfl (by kernel_rfl) (by kernel_rfl) (by kernel_rfl) (fun _ _ _ h => h) (Or.inl ⟨by rfl, ?hy0⟩) hS0 ?_
      case hy0 => (intro w _; go_simp; try (with_reducible rfl))
      refine wpAnyH_take (i := 1) (v := ?v1) rfl (by kernel_rfl) (by kernel_rfl) (by kernel_rfl) (fun _ _ _ h => h) (Or.inl ⟨by rfl, ?hy1⟩) hS0 ?_
      case hy1 => (intro w _; go_simp; try (with_reducible rfl))
      refine wpAnyH_take (i := 2) (v := ?v2) rfl (by kernel_rfl) (by kernel_rfl) (by kernel_rfl) (fun _ _ _ h => h) (Or.inl ⟨by rfl, ?hy2⟩) hS0 ?_
      case hy2 => (intro w _; go_simp; try (with_reducible rfl))
      refine wpAnyH_take (i := 3) (v := ?v3) rfl (by kernel_rfl) (by kernel_rfl) (by kernel_rfl) (fun _ _ _ h => h) (Or.inl ⟨by rfl, ?hy3⟩) hS0 ?_
      case hy3 => (intro w _; go_simp; try (with_reducible rfl))
      refine wpAnyH_take (i := 4) (v := .agg (encZ x).toArray) rfl (by kernel_rfl) (by kernel_rfl) (by kernel_rfl) (fun _ _ _ h => h) (yieldsIf_load_mid (by rfl) 41 _ rfl b (off + k * 21) rfl (encZ x) _ (fun w h => h.1) Try.underlying41 rfl Try.size41) hS0 ?_
      refine wpAnyH_take (i := 5) (v := ?v5) rfl (by kernel_rfl) (by kernel_rfl) (by kernel_rfl) (fun _ _ _ h => h) (Or.inl ⟨by rfl, ?hy5⟩) hS0 ?_
      case hy5 => (intro w _; go_simp; try (with_reducible rfl))
      refine wpAnyH_take (i := 6) (v := ?v6) rfl (by kernel_rfl) (by kernel_rfl) (by kernel_rfl) (fun _ _ _ h => h) (Or.inl ⟨by rfl, ?hy6⟩) hS0 ?_
      case hy6 => (intro w _; go_simp; try (with_reducible rfl))
      refine wpAnyH_take (i := 7) (v := ?v7) rfl (by kernel_rfl) (by kernel_rfl) (by kernel_rfl) (fun _ _ _ h => h) (Or.inl ⟨by rfl, ?hy7⟩) hS0 ?_
      case hy7 => (intro w _; go_simp; try (with_reducible rfl))
      refine wpAnyH_take (i := 8) (v := .agg (encZ y).toArray) rfl (by kernel_rfl) (by kernel_rfl) (by kernel_rfl) (fun _ _ _ h => h) (yieldsIf_load_mid (by rfl) 41 _ rfl b (off + (k + 1) * 21) rfl (encZ y) _ (fun w h => h.2) Try.underlying41 rfl Try.size41) hS0 ?_
      refine wpAnyH_ready (rs := [9]) (by kernel_rfl) (by simp) ?_
      refine AllReadyH.cons rfl (fun K hK => ?_) AllReadyH.nil
      go_simp
      refine (hcall _).mono ?_
      rintro x2 w2 ⟨rfl, hb2⟩
      have hS2 : w2.rangeAt b (off + k * 21) (encZ x) ∧ w2.rangeAt b (off + (k + 1) * 21) (encZ y) := ⟨fun j v h => Keep.below (X := Nowhere) hb2 _ _ (fun h => h) (hx j v h), fun j v h => Keep.below (X := Nowhere) hb2 _ _ (fun h => h) (hy j v h)⟩
      clear hS0
      refine hK.out _ _ hS2 (fun hS0 => ?_)
      clear hK K
      refine wpAnyH_take (i := 10) (v := ?v10) rfl (by kernel_rfl) (by kernel_rfl) (by kernel_rfl) (fun _ _ _ h => h) (Or.inl ⟨by rfl, ?hy10⟩) hS0 ?_
      case hy10 => (intro w _; go_simp; try (with_reducible rfl))
      refine wpAnyH_done (by kernel_rfl) ?_ _
      clear hS0 hS2 hx hy
      have hB2 : Hid (Below w.heap.size w w2) := hB.out.drew.trans (hb2.mono hB.out.size)
      by_cases hneg : c < 0
      · have hd : decide (0 ≤ c) = false := by simp; omega
        go_wp2
        go_roundw
        case rel =>
          refine ⟨k + 1 + 1, by omega, by omega, by go_num, fun j hj => ?_, hB2⟩
          by_cases e : j = k
          · rw [e, HXX.out, HYY.out, HC.out]
            exact hneg
          · exact hall.out j (by omega)
        case measure => simp [intOf]; omega
      · have hd : decide (0 ≤ c) = true := by simp; omega
        go_wp2
        go_ret
        exact ⟨⟨false, rfl, fun h => by cases h⟩, hB2.out⟩
    · have hd : decide ((q : Int) < (n : Int)) = false := by simp; omega
      go_wp2
      go_ret
      refine ⟨⟨true, rfl, fun _ j hj => hall.out j ?_⟩, hB.out⟩
      rw [HN.out] at hj
      omega
end Go.Proofs.Qxb6603644a
