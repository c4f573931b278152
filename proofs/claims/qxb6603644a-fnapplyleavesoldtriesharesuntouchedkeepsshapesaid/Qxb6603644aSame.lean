/-
  THE WALK of zzSameList (12), where the lists are the same.
-/
import Derived.Test.Qxb6603644aColl
import Derived.Laws.StructEq
namespace Go.Proofs.Qxb6603644a
open Go.RowKit Go.Shelf

set_option maxRecDepth 100000 in
theorem eq49 (a : ByteArray) (b c : Int) (w : World) : (Op.equalIn 9999 49 (.agg #[.string a, .int .i64 b, .int .i64 c]) (.agg #[.string a, .int .i64 b, .int .i64 c])).run Try.prog w = .ok true w := by
  have hS : Try.prog.underlying 49 = some (.struct (Try.prog.fieldsOf 49)) := by kernel_rfl
  rw [show (9999 : Nat) = 9998 + 1 from rfl, run_equalIn_agg w 9998 49 _ _ hS (by kernel_rfl)]
  clear hS
  simp only [Program.fieldsOf, Try.underlying49]
  go_simp
set_option maxRecDepth 100000 in
theorem eq51 (a b c : ByteArray) (w : World) : (Op.equalIn 9999 51 (.agg #[.string a, .string b, .string c]) (.agg #[.string a, .string b, .string c])).run Try.prog w = .ok true w := by
  have hS : Try.prog.underlying 51 = some (.struct (Try.prog.fieldsOf 51)) := by kernel_rfl
  rw [show (9999 : Nat) = 9998 + 1 from rfl, run_equalIn_agg w 9998 51 _ _ hS (by kernel_rfl)]
  clear hS
  simp only [Program.fieldsOf, Try.underlying51]
  go_simp
set_option maxRecDepth 100000 in
theorem neq_route (r : R) (w : World) : (binOp .neq 53 (aggR r) (aggR r)).run Try.prog w = .ok (.bool false) w := by
  unfold aggR
  rw [run_neq_struct]
  have hS : Try.prog.underlying 53 = some (.struct (Try.prog.fieldsOf 53)) := by kernel_rfl
  rw [show (10000 : Nat) = 9999 + 1 from rfl, run_equalIn_agg w 9999 53 _ _ hS (by kernel_rfl)]
  clear hS
  simp only [Program.fieldsOf, Try.underlying53]
  unfold routeCells
  have h49 := eq49
  have h51 := eq51
  go_simp

def GRow (w : World) (b : Nat) (os : List R) : Prop := ∀ i, i < os.length → w.rangeAt b (i * 19) (encG (rAt os i))
theorem GRow.later {w w' : World} {b : Nat} {os : List R} (h : GRow w b os) (hb : Below w.heap.size w w') : GRow w' b os := fun i hi => range_later (h i hi) hb

set_option maxRecDepth 10000 in
set_option maxHeartbeats 2000000 in
theorem sameList_any (ao co : Option Addr) (b c n cap cap2 : Nat) (zs : List Z) (w : World) (hao : n = 0 ∨ ao = some ⟨b, 0, none⟩) (hco : n = 0 ∨ co = some ⟨c, 0, none⟩) (hn : zs.length = n) (hnb : n ≤ 16384) (hb : GRow w b (zs.map toR)) (hc : ZRow w c 0 zs) :
    Calls Try.prog 12 #[.slice ao n cap, .slice co n cap2] w fun x w' => x = .returned (.bool true) ∧ Below w.heap.size w w' := by
  have HB : Hid (GRow w b (zs.map toR)) := hb
  have HC : Hid (ZRow w c 0 zs) := hc
  have HN : Hid (zs.length = n) := hn
  clear hb hc hn
  have hmx : Try.prog.follows .mixedOrders = true := by kernel_rfl
  have hnn : ((n : Int) != (n : Int)) = false := by simp
  go_enter Try.func12, Try.ntmps12
  go_upto_region 4 with fail
  go_loopw [5] (fun i wr => ∃ q : Nat, q ≤ n ∧ i = .int .i64 q ∧ Hid (Below w.heap.size w wr)) (fun i _ => n - (intOf i).toNat)
  case atStart => exact ⟨0, Nat.zero_le _, rfl, Below.refl _ _⟩
  case round =>
    obtain ⟨q, hq, rfl, hBl⟩ := hrel
    by_cases hlt : q < n
    · obtain rfl : ao = some ⟨b, 0, none⟩ := hao.resolve_left (by omega)
      obtain rfl : co = some ⟨c, 0, none⟩ := hco.resolve_left (by omega)
      have hx := (HB.out.later hBl.out) q (by rw [List.length_map, HN.out]; exact hlt)
      have hy := (HC.out.later hBl.out) q (by rw [HN.out]; exact hlt)
      have hrq : rAt (zs.map toR) q = toR (zAt zs q) := by
        unfold rAt
        rw [List.getD_eq_getElem?_getD, List.getElem?_eq_getElem (by rw [List.length_map, HN.out]; exact hlt), zAt_eq (by rw [HN.out]; exact hlt)]
        simp
      rw [hrq] at hx
      obtain ⟨z, hz⟩ : ∃ z, zAt zs q = z := ⟨_, rfl⟩
      rw [hz] at hx hy
      rw [Nat.zero_add] at hy
      clear hz hrq
      have x0 := hx 0 _ rfl
      have y0 := hy 0 _ rfl
      rw [Nat.add_zero] at x0 y0
      have hxr : wr.rangeAt b (q * 19 + 1) (routeCells (toR z)) := fun j v hv => by
        have := hx (j + 1) v (by rw [encG, List.getElem?_cons_succ]; exact hv)
        rw [show q * 19 + (j + 1) = q * 19 + 1 + j by omega] at this
        exact this
      have x0' : wr.cell? ⟨b, q * 19, none⟩ = some (.int .u64 z.hash) := x0
      clear x0 hx
      obtain ⟨h, hh⟩ : ∃ h, z.hash = h := ⟨_, rfl⟩
      rw [hh] at x0' y0
      have hneq := neq_route (toR z)
      have hcall := fun w => zzRoute_any z w
      unfold aggZ aggR at hcall
      unfold aggR at hneq
      have hqI : (q : Int) < (n : Int) := by omega
      clear hh
      go_upto_region 6 with fail
      refine wp_region_below hmx (by kernel_rfl) ?_
      refine wpq_val (by go_simp) (v := ?va0) ?hya0 (fun K hK => ?_)
      case hya0 => (intro w hw; go_simp; try (with_reducible rfl))
      go_simp
      refine hK _ ?_
      clear hK K
      refine wpq_val (by go_simp) (v := ?va1) ?hya1 (fun K hK => ?_)
      case hya1 => (intro w hw; go_simp; try (with_reducible rfl))
      go_simp
      refine hK _ ?_
      clear hK K
      refine wpq_val (by go_simp) (v := ?va2) ?hya2 (fun K hK => ?_)
      case hya2 => (intro w hw; go_simp; try (with_reducible rfl))
      go_simp
      refine hK _ ?_
      clear hK K
      refine wpq_val (by go_simp) (v := ?va3) ?hya3 (fun K hK => ?_)
      case hya3 => (intro w hw; go_simp; try (with_reducible rfl))
      go_simp
      refine hK _ ?_
      clear hK K
      refine wpq_val (by go_simp) (v := ?va4) ?hya4 (fun K hK => ?_)
      case hya4 => (intro w hw; have k0 := Keep.below (X := Nowhere) hw _ _ (fun h => h) x0'; go_simp; try (with_reducible rfl))
      go_simp
      refine hK _ ?_
      clear hK K
      refine wpq_val (by go_simp) (v := ?va5) ?hya5 (fun K hK => ?_)
      case hya5 => (intro w hw; go_simp; try (with_reducible rfl))
      go_simp
      refine hK _ ?_
      clear hK K
      refine wpq_val (by go_simp) (v := ?va6) ?hya6 (fun K hK => ?_)
      case hya6 => (intro w hw; go_simp; try (with_reducible rfl))
      go_simp
      refine hK _ ?_
      clear hK K
      refine wpq_val (by go_simp) (v := ?va7) ?hya7 (fun K hK => ?_)
      case hya7 => (intro w hw; go_simp; try (with_reducible rfl))
      go_simp
      refine hK _ ?_
      clear hK K
      refine wpq_val (by go_simp) (v := ?va8) ?hya8 (fun K hK => ?_)
      case hya8 => (intro w hw; go_simp; try (with_reducible rfl))
      go_simp
      refine hK _ ?_
      clear hK K
      refine wpq_val (by go_simp) (v := ?va9) ?hya9 (fun K hK => ?_)
      case hya9 => (intro w hw; have k0 := Keep.below (X := Nowhere) hw _ _ (fun h => h) y0; go_simp; try (with_reducible rfl))
      go_simp
      refine hK _ ?_
      clear hK K
      refine wpq_val (by go_simp) (v := ?va10) ?hya10 (fun K hK => ?_)
      case hya10 => (intro w hw; go_simp; try (with_reducible rfl))
      go_simp
      refine hK _ ?_
      clear hK K
      refine wpq_val (by go_simp) (v := ?va11) ?hya11 (fun K hK => ?_)
      case hya11 => (intro w hw; go_simp; try (with_reducible rfl))
      go_simp
      refine hK _ ?_
      clear hK K
      refine wpq_val (by go_simp) (v := ?va12) ?hya12 (fun K hK => ?_)
      case hya12 => (intro w hw; go_simp; try (with_reducible rfl))
      go_simp
      refine hK _ ?_
      clear hK K
      refine wpq_val (by go_simp) (v := ?va13) ?hya13 (fun K hK => ?_)
      case hya13 => (intro w hw; go_simp; try (with_reducible rfl))
      go_simp
      refine hK _ ?_
      clear hK K
      refine wpq_val (by go_simp) (v := ?va14) ?hya14 (fun K hK => ?_)
      case hya14 => (intro w hw; go_simp; try (with_reducible rfl))
      go_simp
      refine hK _ ?_
      clear hK K
      refine wpq_val (by go_simp) (v := ?va15) ?hya15 (fun K hK => ?_)
      case hya15 => (intro w hw; go_simp; try (with_reducible rfl))
      go_simp
      refine hK _ ?_
      clear hK K
      refine wpq_load (by go_simp) 53 _ rfl b (q * 19 + 1) rfl (routeCells (toR z)) _ (fun w h => range_later hxr h) Try.underlying53 rfl Try.size53 (fun K hK => ?_)
      go_simp
      refine hK _ ?_
      clear hK K
      refine wpq_val (by go_simp) (v := ?va17) ?hya17 (fun K hK => ?_)
      case hya17 => (intro w hw; go_simp; try (with_reducible rfl))
      go_simp
      refine hK _ ?_
      clear hK K
      refine wpq_val (by go_simp) (v := ?va18) ?hya18 (fun K hK => ?_)
      case hya18 => (intro w hw; go_simp; try (with_reducible rfl))
      go_simp
      refine hK _ ?_
      clear hK K
      refine wpq_val (by go_simp) (v := ?va19) ?hya19 (fun K hK => ?_)
      case hya19 => (intro w hw; go_simp; try (with_reducible rfl))
      go_simp
      refine hK _ ?_
      clear hK K
      refine wpq_load (by go_simp) 41 _ rfl c (q * 21) rfl (encZ z) _ (fun w h => range_later hy h) Try.underlying41 rfl Try.size41 (fun K hK => ?_)
      go_simp
      refine hK _ ?_
      clear hK K
      refine wpq_call (by go_simp) (f := 23) (args := #[.agg (encZ z).toArray]) ?hr21 (fun w' hw' => calls_below hw' (hcall w')) (fun K hK => ?_)
      case hr21 => (intro w _; go_simp; try (with_reducible rfl))
      go_simp
      refine hK _ ?_
      clear hK K
      refine wpq_val (by go_simp) (v := .bool false) ?hya22 (fun K hK => ?_)
      case hya22 => (intro w hw; go_simp; try rfl)
      go_simp
      refine hK _ ?_
      clear hK K
      refine wpq_val (by go_simp) (v := ?va23) ?hya23 (fun K hK => ?_)
      case hya23 => (intro w hw; go_simp; try (with_reducible rfl))
      go_simp
      refine hK _ ?_
      clear hK K
      refine wpq_nil ?_
      intro w2 hb2
      have hB2 : Hid (Below w.heap.size w w2) := hBl.out.trans (hb2.mono hBl.out.size)
      go_wp2
      go_roundw
      case rel => exact ⟨q + 1, hlt, by go_num, hB2⟩
      case measure => simp [intOf]; omega
    · obtain rfl : q = n := by omega
      go_wp2
      go_ret
      exact ⟨rfl, hBl.out⟩
end Go.Proofs.Qxb6603644a
