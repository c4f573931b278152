/-
  A PROOF OF 'Rows.FnTextSplitsBackToArgsSaid' ('example.com/quorate/quorate/zzlaws_dirdoc_b1.FnTextSplitsBackToArgs'): the frame is the guide's, turned to one slice of strings; the walk's parts are the texts imported below.
-/
import Derived.Test.Qxb6603737aRows
import Derived.WalkKit
import Derived.ProofKit
import Derived.OpenShut
import Derived.ShutString
import Derived.ChangeOld
import Derived.Below
import Derived.SliceStrings
import Derived.Test.Qxb6603737aLaw
namespace Go.Proofs.Qxb6603737a.fnTextSplitsBackToArgs
open Go.ChangeShapes Go.WideShapes Go.ChangeAt Go.RowKit
open Go.ChangeMaps (open_string shut_string)
set_option linter.unusedVariables false

theorem own : ownKnob Try.prog.godebug = none := by kernel_rfl
theorem laidOut : laidOutB Try.prog = true := by kernel_rfl

/-- what the walk is told of a slice of strings that came in: it is nil; or it leads to a row of 'cap' strings -/
def IsStrs (w : World) (a : Option Addr) (len cap : Nat) (ss : List ByteArray) : Prop :=
  (a = none ∧ len = 0 ∧ cap = 0 ∧ ss = []) ∨
  ∃ x, a = some x ∧ len ≤ cap ∧ cap ≤ maxLen ∧ ss.length = cap ∧ (∀ i, i < ss.length → w.cell? (x.add i) = some (.string (ss.getD i ByteArray.empty))) ∧ ∀ s ∈ ss, s.size ≤ maxLen

/-! ### STEP 1: THE WALK -/
theorem walk (a0 : Option Addr) (len0 cap0 : Nat) (ss : List ByteArray) (w : World) (w0 : IsStrs w a0 len0 cap0 ss) :
    Calls Try.prog 5 #[.slice a0 len0 cap0] w fun e w' => e = .returned (.bool true) ∧ Below w.heap.size w w' := by
  rcases w0 with ⟨rfl, rfl, rfl, rfl⟩ | ⟨x, rfl, hl, hm, hz, hc, hsz⟩
  · exact law5_zero none 0 w
  · by_cases h0 : len0 = 0
    · subst h0
      exact law5_zero (some x) cap0 w
    · obtain ⟨g, off, rfl, hs⟩ := strs_of_cells (by omega) hl hz hc
      refine law5_main g off len0 cap0 (ss.take len0) w hs (by omega) (by omega) (fun k hk => ?_)
      have hk2 : k < (ss.take len0).length := by rw [hs.1]; exact hk
      have e : str (ss.take len0) k = (ss.take len0)[k] := by
        unfold str
        rw [List.getD_eq_getElem?_getD, List.getElem?_eq_getElem hk2]
        rfl
      rw [e]
      exact hsz _ (List.mem_of_mem_take (List.getElem_mem hk2))

/-! ### THE ROW's STEP -/
set_option maxRecDepth 100000 in
theorem lifted (os : Os) (started : os.Started) (H : Type) (enc : TypeId × Value → H) :
    ReturnsInHanded {} Try.checked os 5 .any (Rows.fnTextSplitsBackToArgsSpec.pre6 enc Try.prog Try.f5 Rows.fnTextSplitsBackToArgsRow.domain false) (Rows.fnTextSplitsBackToArgsSpec.post enc Try.prog Try.f5 false true false false) := by
  refine returnsInHanded_of_change (C := Try.checked) own started (by kernel_rfl) Try.func5
    (ChangeSpec.witness6 (enc := enc) (C := Try.checked) false ⟨#[], #[.slice none 0 0], []⟩ 8 (by kernel_rfl) (by kernel_rfl) (by kernel_rfl) (by kernel_rfl)) ?_
  intro W base args ds gs before hval0 hW hcnd _
  have hval : ∀ (j : Nat) t v, Try.f5.params[j]? = some t → args[j]? = some v → Value.okWide Try.prog W .any base t v := hval0
  have hW' := hW
  obtain ⟨p, q, hA0, hV, rfl, hfz, hnd⟩ := hW
  have hA : DataW.TrodAll enc Try.prog W 0 (fun _ => true) true Try.f5.params.toList args.toList ds p := hA0
  rw [Try.params5] at hA hval
  obtain ⟨v0, vs0, d0, ds0, p0, q0, hargs, rfl, rfl, h0, r0⟩ := trodAll_cons hA
  obtain ⟨rfl, rfl, rfl⟩ := trodAll_nil r0
  obtain rfl : args = #[v0] := by cases args; simp_all
  obtain ⟨rfl, rfl⟩ := trodVars_none hV
  obtain ⟨a0, len0, cap0, rfl⟩ := okWide_slice Try.underlying25 (hval 0 25 v0 rfl rfl)
  have k0 := h0
  have lt0 : ∀ x ∈ p0, x.block < W.heap.size := by obtain ⟨m, hm⟩ := k0; exact DataW.trod_lt m _ _ _ hm
  obtain ⟨z0, w0⟩ : ∃ zs, IsStrs W a0 len0 cap0 zs := by
    obtain ⟨fuel, hf⟩ := h0
    rcases open_strings Try.underlying25 Try.underlying9 (by kernel_rfl) hf with ⟨hcs, _⟩ | ⟨x, l, c, zs, hcs, _, hl, hm, hz, _, hcell, hwz⟩
    · simp [Value.cells] at hcs
      obtain ⟨rfl, rfl, rfl⟩ := hcs
      exact ⟨[], .inl ⟨rfl, rfl, rfl, rfl⟩⟩
    · simp [Value.cells] at hcs
      obtain ⟨rfl, rfl, rfl⟩ := hcs
      exact ⟨zs, .inr ⟨_, rfl, hl, hm, by simpa using hz, hcell, hwz⟩⟩
  clear hA0 hval0
  refine (walk a0 len0 cap0 z0 W w0).mono fun e W' ⟨he, bel⟩ => ?_
  subst he
  exact ⟨_, rfl, _, _, _, [], _, [], hW', trodAll_mk1 (shut_bool Try.underlying4 _), (trodAll_cons_mk (Below.trod laidOut (by kernel_rfl) (of_decide_eq_true (by kernel_rfl)) k0 bel lt0) trodAll_mk0), rfl, bel.frame _, fun h => by cases h⟩

theorem over : Rows.fnTextSplitsBackToArgsRow.holds Try.pinned (OpenSpec.ofChange Rows.fnTextSplitsBackToArgsSpec) :=
  OpenClaim.holds_of_wide 5 Try.f5 rfl rfl rfl rfl rfl rfl rfl ⟨rfl, rfl, rfl, rfl, rfl⟩ rfl rfl rfl rfl rfl (by kernel_rfl) Try.func5 (by kernel_rfl)
    (of_decide_eq_true (by kernel_rfl)) (by unfold Func.isWrapper; first | (rw [if_pos (by decide +kernel)]; kernel_rfl) | (rw [if_neg (by decide +kernel)]; exact ⟨rfl, rfl⟩))
    (fun os started H enc _ => lifted os started H enc)

/-- ████ THE STATEMENT ████ -/
theorem proved : Rows.FnTextSplitsBackToArgsSaid := over
end Go.Proofs.Qxb6603737a.fnTextSplitsBackToArgs
