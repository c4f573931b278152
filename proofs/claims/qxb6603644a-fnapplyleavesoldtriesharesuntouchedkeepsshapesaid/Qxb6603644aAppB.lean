/-
  apply (22) on an inner node: a round of the loop over the runs.
-/
import Derived.Test.Qxb6603644aRound
import Derived.TacticsInMore
import Derived.OwnWalkIn
namespace Go.Proofs.Qxb6603644a
open Go.RowKit Go.Shelf
attribute [local go_sem] Oper.semAt_some

/-- the body of the first range over a function -/
def rfBody : Code → Code
  | .rangeFunc _ _ _ b => b
  | .block _ c => rfBody c
  | .cond _ _ _ => .skip
  | .seq a b => match rfBody a with
    | .skip => rfBody b
    | c => c
  | _ => .skip
noncomputable def body22 : Code := rfBody (Try.f22.body.getD .skip)

set_option maxRecDepth 10000 in
set_option maxHeartbeats 40000000 in
theorem apply_body {l g s b off n cap p k j B0 : Nat} {pj : Option Addr} {W : World} {R : World → Prop} {Post : Tr → World → Prop} {u3 u5 u7 u11 u12 u13 u14 u15 u16 u17 u18 u19 u20 u21 u22 u23 u24 u25 u26 u27 u28 u29 u30 u31 u32 u33 u34 u35 u36 u37 u38 u39 u40 u41 u42 u43 u44 u45 u46 u47 u48 u49 u50 u51 u52 u53 u54 u55 u56 u57 u58 u59 u60 u61 u62 u63 u64 u65 u66 u67 u68 u69 u70 u71 u72 u73 u74 u75 u76 u77 u78 u79 u80 u81 u82 u83 u84 u85 u86 u87 u88 : Value}
    (hs4 : 4 ≤ s) (hs64 : s ≤ 64) (hj16 : j < 16)
    (hcj : W.cell? ⟨B0 + 1, j, none⟩ = some (.pointer pj)) (hsh : W.cell? ⟨B0, 0, none⟩ = some (.int .i64 s))
    (hcall : Calls Try.prog 22 #[.pointer pj, .int .i64 ((s : Int) - 4), .slice (some ⟨b, off + p * 4, none⟩) k (cap - p)] W.drew fun x w' => ∃ t, x = .returned (.pointer t.ptr) ∧ Post t w')
    (hpost : ∀ t w5, Post t w5 → w5.cell? ⟨B0 + 1, j, none⟩ = some (.pointer pj) ∧ w5.frozen? ⟨B0 + 1, j, none⟩ = false ∧ R (w5.setCell ⟨B0 + 1, j, none⟩ (.pointer t.ptr))) :
    body22.wpIn (Fence.wide.inRound l) 3 Try.prog (fun e _ W' => e = .normal ∧ R W') ⟨(.pointer (some ⟨g, 0, none⟩) :: .int .i64 s :: .slice (some ⟨b, off, none⟩) n cap :: u3 :: .pointer (some ⟨B0, 0, none⟩) :: u5 :: .pointer none :: u7 :: .pointer (some ⟨B0 + 1, 0, none⟩) :: .int .i64 (j : Int) :: .slice (some ⟨b, off + p * 4, none⟩) k (cap - p) :: u11 :: u12 :: u13 :: u14 :: u15 :: u16 :: u17 :: u18 :: u19 :: u20 :: u21 :: u22 :: u23 :: u24 :: u25 :: u26 :: u27 :: u28 :: u29 :: u30 :: u31 :: u32 :: u33 :: u34 :: u35 :: u36 :: u37 :: u38 :: u39 :: u40 :: u41 :: u42 :: u43 :: u44 :: u45 :: u46 :: u47 :: u48 :: u49 :: u50 :: u51 :: u52 :: u53 :: u54 :: u55 :: u56 :: u57 :: u58 :: u59 :: u60 :: u61 :: u62 :: u63 :: u64 :: u65 :: u66 :: u67 :: u68 :: u69 :: u70 :: u71 :: u72 :: u73 :: u74 :: u75 :: u76 :: u77 :: u78 :: u79 :: u80 :: u81 :: u82 :: u83 :: u84 :: u85 :: u86 :: u87 :: u88 :: []).toArray, []⟩ W := by
  conv => arg 4; whnf
  have hmx : Try.prog.follows .mixedOrders = true := by kernel_rfl
  have hfn : Fence.wide.fn 22 := trivial
  have hws : IntKind.i64.wrap ((s : Int) - 4) = (s : Int) - 4 := by simp [IntKind.wrap, IntKind.bits, IntKind.signed]; omega
  have hjj : (j : Int) < 16 := by omega
  have HP : Hid (∀ t w5, Post t w5 → w5.cell? ⟨B0 + 1, j, none⟩ = some (.pointer pj) ∧ w5.frozen? ⟨B0 + 1, j, none⟩ = false ∧ R (w5.setCell ⟨B0 + 1, j, none⟩ (.pointer t.ptr))) := hpost
  clear hpost
  gi_wp2
  refine wpIn_region_any (by assumption) ?_
  change wpAnyIn _ _ _ _ _ _ _ _ _ (World.drew _)
  refine wpAnyIn_round rfl ?_ _ _ _ _ ?_
  · intro q o hq c
    rcases q with _ | _ | _ | _ | _ | _ | _ | _ | _ | _ | q
    all_goals first | (obtain rfl := Option.some.inj hq; exact fun e => nomatch e) | (simp at hq)
  refine wpAnyIn_take (i := 0) (v := ?v0) rfl rfl (by kernel_rfl) (by kernel_rfl) (by kernel_rfl) (fun _ _ _ h => h) ⟨Or.inl ⟨by rfl, ?hy0⟩, fun _ => rfl⟩ ?_
  case hy0 => (intro w; go_simp; try (with_reducible rfl))
  refine wpAnyIn_take (i := 1) (v := ?v1) rfl rfl (by kernel_rfl) (by kernel_rfl) (by kernel_rfl) (fun _ _ _ h => h) ⟨Or.inl ⟨by rfl, ?hy1⟩, fun _ => rfl⟩ ?_
  case hy1 => (intro w; go_simp; try (with_reducible rfl))
  refine wpAnyIn_take (i := 6) (v := ?v6) rfl rfl (by kernel_rfl) (by kernel_rfl) (by kernel_rfl) (fun _ _ _ h => h) ⟨Or.inl ⟨by rfl, ?hy6⟩, fun _ => rfl⟩ ?_
  case hy6 => (intro w; go_simp; try (with_reducible rfl))
  refine wpAnyIn_take (i := 2) (v := ?v2) rfl rfl (by kernel_rfl) (by kernel_rfl) (by kernel_rfl) (fun _ _ _ h => h) ⟨Or.inl ⟨by rfl, ?hy2⟩, fun _ => rfl⟩ ?_
  case hy2 => (intro w; go_simp; try (with_reducible rfl))
  refine wpAnyIn_ready (rs := [3, 4]) (by kernel_rfl) (by simp) ?_
  refine AllReadyIn.cons rfl (fun K hK => ?_) ?_
  · go_simp
    refine hK _ _ ?_
    clear hK K
    refine wpAnyIn_ready (rs := [4]) (by kernel_rfl) (by simp) ?_
    refine AllReadyIn.cons rfl (fun K hK => ?_) AllReadyIn.nil
    go_simp
    refine hK _ _ ?_
    clear hK K
    refine wpAnyIn_take (i := 5) (v := ?v5) rfl rfl (by kernel_rfl) (by kernel_rfl) (by kernel_rfl) (fun _ _ _ h => h) ⟨Or.inl ⟨by rfl, ?hy5⟩, fun _ => rfl⟩ ?_
    case hy5 => (intro w; go_simp; try (with_reducible rfl))
    refine wpAnyIn_ready (rs := [7]) (by kernel_rfl) (by simp) ?_
    refine AllReadyIn.cons rfl (fun K hK => ?_) AllReadyIn.nil
    go_simp
    refine (callsIn_wide.2 hcall).mono ?_
    rintro x5 w5 ⟨t, rfl, hP5⟩
    obtain ⟨hcj5, hfj5, hR5⟩ := HP.out t w5 hP5
    refine hK _ _ ?_
    clear hK K
    refine wpAnyIn_take (i := 8) (v := ?v8) rfl rfl (by kernel_rfl) (by kernel_rfl) (by kernel_rfl) (fun _ _ _ h => h) ⟨Or.inl ⟨by rfl, ?hy8⟩, fun _ => rfl⟩ ?_
    case hy8 => (intro w; go_simp; try (with_reducible rfl))
    refine wpAnyIn_ready (rs := [9]) (by kernel_rfl) (by simp) ?_
    refine AllReadyIn.cons rfl (fun K hK => ?_) AllReadyIn.nil
    go_simp
    refine hK _ _ ?_
    clear hK K
    refine wpAnyIn_done (by kernel_rfl) ?_ _
    gi_wp2
    exact hR5
  · refine AllReadyIn.cons rfl (fun K hK => ?_) AllReadyIn.nil
    go_simp
    refine hK _ _ ?_
    clear hK K
    refine wpAnyIn_take (i := 5) (v := ?v5) rfl rfl (by kernel_rfl) (by kernel_rfl) (by kernel_rfl) (fun _ _ _ h => h) ⟨Or.inl ⟨by rfl, ?hy5⟩, fun _ => rfl⟩ ?_
    case hy5 => (intro w; go_simp; try (with_reducible rfl))
    refine wpAnyIn_ready (rs := [3]) (by kernel_rfl) (by simp) ?_
    refine AllReadyIn.cons rfl (fun K hK => ?_) AllReadyIn.nil
    go_simp
    refine hK _ _ ?_
    clear hK K
    refine wpAnyIn_ready (rs := [7]) (by kernel_rfl) (by simp) ?_
    refine AllReadyIn.cons rfl (fun K hK => ?_) AllReadyIn.nil
    go_simp
    refine (callsIn_wide.2 hcall).mono ?_
    rintro x5 w5 ⟨t, rfl, hP5⟩
    obtain ⟨hcj5, hfj5, hR5⟩ := HP.out t w5 hP5
    refine hK _ _ ?_
    clear hK K
    refine wpAnyIn_take (i := 8) (v := ?v8) rfl rfl (by kernel_rfl) (by kernel_rfl) (by kernel_rfl) (fun _ _ _ h => h) ⟨Or.inl ⟨by rfl, ?hy8⟩, fun _ => rfl⟩ ?_
    case hy8 => (intro w; go_simp; try (with_reducible rfl))
    refine wpAnyIn_ready (rs := [9]) (by kernel_rfl) (by simp) ?_
    refine AllReadyIn.cons rfl (fun K hK => ?_) AllReadyIn.nil
    go_simp
    refine hK _ _ ?_
    clear hK K
    refine wpAnyIn_done (by kernel_rfl) ?_ _
    gi_wp2
    exact hR5
end Go.Proofs.Qxb6603644a
