/-
  No cell of these rows narrows 'for every input' (looked for: loops, veiled, ifaces, maps, wideKeys, modest, calm, conditions, laid).
  DERIVED. THE GIVEN ROWS OF THIS SEAT. 2 by the template 'for every input the law returns true; each argument reads behind the call as it read before'; 0 by the template 'total and deterministic' (their statements: Qxb6603644aTotals.lean).
  GIVEN WITH THE SEED: the statements are not yours to turn. If you find one false, say at which input.
  Laid BY PROGRAM, IN A SANDBOX (cutbox-rows.mjs): the forced cells as the released guide's own fill.sh prints them over the translation b2dfaf8ae052c7ac… (all of the seat's roots in one cut). By AI agents, Wed Nov 11 2026. No macro, syntax, notation, axiom, sorry.
-/
import Derived.Test.Qxb6603644aChecked
import GoSem.Claim
import GoSem.ClaimJoined
import GoSem.ClaimMapViews
import Derived.JoinedTies
import Derived.KernelRfl
namespace Go.Proofs.Qxb6603644a
/- THE CELL 'sum', in the pinned program and in every row, IS THE sha256 OF THE DUMP (.gsa) THAT Qxb6603644aProg.lean LOADS. Nothing in Lean hashes anything: it is a label: what it is worth is what the hold of that sum in a sandbox is worth. -/
noncomputable def Try.pinned : Pinned := { name := "qxb6603644a", sum := "b2dfaf8ae052c7ac220c5c3a6101d8093f453b48ddb9871d20c2a421a1b47d1d", checked := Try.checked }
namespace Rows
def none {H : Type} : Left H := { results := [], args := [] }

/-- 'zzlaws_internal_routes_b1.FnApplyHoldsLastPutOfEachID': WHATEVER THE INPUT: true; the input reads as it did. -/
def fnApplyHoldsLastPutOfEachIDSpec : ChangeSpec := { name := "fnApplyHoldsLastPutOfEachID", fn := fun _ => fun
  | [d1, d2, d3] => { results := [.lit (.bool true)], args := [d1, d2, d3] }
  | _ => none }
def fnApplyHoldsLastPutOfEachIDRow : OpenClaim := { program := "qxb6603644a", sum := "b2dfaf8ae052c7ac220c5c3a6101d8093f453b48ddb9871d20c2a421a1b47d1d", func := "example.com/edge-for-workloads/edge-for-workloads/zzlaws_internal_routes_b1.FnApplyHoldsLastPutOfEachID", spec := "fnApplyHoldsLastPutOfEachID", inPlace := ["internal/abi.NoEscape", "internal/bytealg.MakeNoZero", "internal/bytealg.abigen_runtime_cmpstring"], unfollowed := true, recurses := true, apart := false }
def FnApplyHoldsLastPutOfEachIDSaid : Prop := fnApplyHoldsLastPutOfEachIDRow.holds Try.pinned (OpenSpec.ofChange fnApplyHoldsLastPutOfEachIDSpec)

/-- ITS FALSE NEIGHBOUR: 'it returns false'. Refute it at one input. -/
def fnApplyHoldsLastPutOfEachIDWrong : ChangeSpec := { name := "fnApplyHoldsLastPutOfEachID", fn := fun _ => fun
  | [d1, d2, d3] => { results := [.lit (.bool false)], args := [d1, d2, d3] }
  | _ => none }
def FnApplyHoldsLastPutOfEachIDWrongFalsely : Prop := fnApplyHoldsLastPutOfEachIDRow.holds Try.pinned (OpenSpec.ofChange fnApplyHoldsLastPutOfEachIDWrong)

/-- 'zzlaws_internal_routes_b1.FnApplyLeavesOldTrieSharesUntouchedKeepsShape': WHATEVER THE INPUT: true; the input reads as it did. -/
def fnApplyLeavesOldTrieSharesUntouchedKeepsShapeSpec : ChangeSpec := { name := "fnApplyLeavesOldTrieSharesUntouchedKeepsShape", fn := fun _ => fun
  | [d1, d2, d3] => { results := [.lit (.bool true)], args := [d1, d2, d3] }
  | _ => none }
def fnApplyLeavesOldTrieSharesUntouchedKeepsShapeRow : OpenClaim := { program := "qxb6603644a", sum := "b2dfaf8ae052c7ac220c5c3a6101d8093f453b48ddb9871d20c2a421a1b47d1d", func := "example.com/edge-for-workloads/edge-for-workloads/zzlaws_internal_routes_b1.FnApplyLeavesOldTrieSharesUntouchedKeepsShape", spec := "fnApplyLeavesOldTrieSharesUntouchedKeepsShape", inPlace := ["internal/abi.NoEscape", "internal/bytealg.MakeNoZero", "internal/bytealg.abigen_runtime_cmpstring"], unfollowed := true, recurses := true, apart := false }
def FnApplyLeavesOldTrieSharesUntouchedKeepsShapeSaid : Prop := fnApplyLeavesOldTrieSharesUntouchedKeepsShapeRow.holds Try.pinned (OpenSpec.ofChange fnApplyLeavesOldTrieSharesUntouchedKeepsShapeSpec)

/-- ITS FALSE NEIGHBOUR: 'it returns false'. Refute it at one input. -/
def fnApplyLeavesOldTrieSharesUntouchedKeepsShapeWrong : ChangeSpec := { name := "fnApplyLeavesOldTrieSharesUntouchedKeepsShape", fn := fun _ => fun
  | [d1, d2, d3] => { results := [.lit (.bool false)], args := [d1, d2, d3] }
  | _ => none }
def FnApplyLeavesOldTrieSharesUntouchedKeepsShapeWrongFalsely : Prop := fnApplyLeavesOldTrieSharesUntouchedKeepsShapeRow.holds Try.pinned (OpenSpec.ofChange fnApplyLeavesOldTrieSharesUntouchedKeepsShapeWrong)

end Rows
end Go.Proofs.Qxb6603644a
