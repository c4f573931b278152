/-
  A REGION THAT DRAWS ITS ORDER, IN A ROUND OF A RANGE OVER A FUNCTION: where it defers nothing, what holds outside a round holds in it.
-/
import Derived.Test.Qxb6603644aApp4
import Derived.OrdersIn
namespace Go.Proofs.Qxb6603644a
open Go.RowKit Go.Shelf

theorem uponIn_round {F : Fence} {n l : Nat} {P : Program} {o : Oper} {a : Act} {K : Act → World → Prop} {Q : Exit → Act → World → Prop} (r : Result Next) : Oper.uponIn (F.inRound l) n P o a K Q r = Oper.uponIn F n P o a K Q r := by
  cases r with
  | ok x w => cases x <;> rfl
  | halt x w => cases x <;> rfl

theorem wpAnyIn_round {F : Fence} {n l : Nat} {P : Program} {md : Region.Mode} {ops : Array Oper} {Q : Exit → Act → World → Prop} (hro : F.round = none) (hd : ∀ (j : Nat) (o : Oper), ops[j]? = some o → ∀ c, o.op ≠ .defer c) :
    ∀ (fuel : Nat) (listed : Array Bool) (a : Act) (w : World), wpAnyIn F n P md ops Q fuel listed a w → wpAnyIn (F.inRound l) n P md ops Q fuel listed a w := by
  intro fuel
  induction fuel with
  | zero => intro listed a w h; exact h
  | succ fuel ih =>
    intro listed a w h
    refine ⟨h.1, fun i hi => ?_⟩
    have h1 : wpOpIn (F.inRound l) n P ops Q i (wpAnyIn F n P md ops Q fuel (listed.setIfInBounds i true)) a w := by
      have h2 := h.2 i hi
      unfold wpOpIn at h2 ⊢
      cases ho : ops[i]? with
      | none => rw [ho] at h2; exact h2
      | some o =>
        simp only [ho] at h2 ⊢
        split
        · rename_i hw
          simp only [hw, if_true] at h2
          unfold Oper.wpIn at h2 ⊢
          refine ⟨h2.1, ?_⟩
          have h3 := h2.2
          rw [hro, Oper.semAt_none] at h3
          rw [uponIn_round, Fence.inRound_round, Oper.semAt_some l _ o (hd i o ho)]
          exact h3
        · rename_i hw
          simp only [hw] at h2
          exact h2
    exact wpOpIn_mono (fun a' w' h3 => ih _ a' w' h3) h1
end Go.Proofs.Qxb6603644a
