/-
  No cell of these rows narrows 'for every input' (looked for: loops, veiled, ifaces, maps, wideKeys, modest, calm, conditions, laid).
  DERIVED. THE GIVEN ROWS OF THIS SEAT. 4 by the template 'for every input the law returns true; each argument reads behind the call as it read before'; 0 by the template 'total and deterministic' (their statements: Qxb6603737aTotals.lean).
  GIVEN WITH THE SEED: the statements are not yours to turn. If you find one false, say at which input.
  Laid BY PROGRAM, IN A SANDBOX (cutbox-rows.mjs): the forced cells as the released guide's own fill.sh prints them over the translation 1c3039ab1c3ecd6c… (all of the seat's roots in one cut). By AI agents, Wed Nov 11 2026. No macro, syntax, notation, axiom, sorry.
-/
import Derived.Test.Qxb6603737aChecked
import GoSem.Claim
import GoSem.ClaimJoined
import GoSem.ClaimMapViews
import Derived.JoinedTies
import Derived.KernelRfl
namespace Go.Proofs.Qxb6603737a
/- THE CELL 'sum', in the pinned program and in every row, IS THE sha256 OF THE DUMP (.gsa) THAT Qxb6603737aProg.lean LOADS. Nothing in Lean hashes anything: it is a label: what it is worth is what the hold of that sum in a sandbox is worth. -/
noncomputable def Try.pinned : Pinned := { name := "qxb6603737a", sum := "1c3039ab1c3ecd6cdef0788aee6cc574804b7fd5573f8755b8530752a297a1ce", checked := Try.checked }
namespace Rows
def none {H : Type} : Left H := { results := [], args := [] }

/-- 'zzlaws_dirdoc_b1.FnWordEndIsFirstBlank': WHATEVER THE INPUT: true; the input reads as it did. -/
def fnWordEndIsFirstBlankSpec : ChangeSpec := { name := "fnWordEndIsFirstBlank", fn := fun _ => fun
  | [d] => { results := [.lit (.bool true)], args := [d] }
  | _ => none }
def fnWordEndIsFirstBlankRow : OpenClaim := { program := "qxb6603737a", sum := "1c3039ab1c3ecd6cdef0788aee6cc574804b7fd5573f8755b8530752a297a1ce", func := "example.com/quorate/quorate/zzlaws_dirdoc_b1.FnWordEndIsFirstBlank", spec := "fnWordEndIsFirstBlank", inPlace := ["internal/bytealg.IndexByteString"], apart := false }
def FnWordEndIsFirstBlankSaid : Prop := fnWordEndIsFirstBlankRow.holds Try.pinned (OpenSpec.ofChange fnWordEndIsFirstBlankSpec)

/-- ITS FALSE NEIGHBOUR: 'it returns false'. Refute it at one input. -/
def fnWordEndIsFirstBlankWrong : ChangeSpec := { name := "fnWordEndIsFirstBlank", fn := fun _ => fun
  | [d] => { results := [.lit (.bool false)], args := [d] }
  | _ => none }
def FnWordEndIsFirstBlankWrongFalsely : Prop := fnWordEndIsFirstBlankRow.holds Try.pinned (OpenSpec.ofChange fnWordEndIsFirstBlankWrong)

/-- 'zzlaws_dirdoc_b1.FnKeywordIsOneWord': WHATEVER THE INPUT: true; the input reads as it did. -/
def fnKeywordIsOneWordSpec : ChangeSpec := { name := "fnKeywordIsOneWord", fn := fun _ => fun
  | [d] => { results := [.lit (.bool true)], args := [d] }
  | _ => none }
def fnKeywordIsOneWordRow : OpenClaim := { program := "qxb6603737a", sum := "1c3039ab1c3ecd6cdef0788aee6cc574804b7fd5573f8755b8530752a297a1ce", func := "example.com/quorate/quorate/zzlaws_dirdoc_b1.FnKeywordIsOneWord", spec := "fnKeywordIsOneWord", inPlace := ["internal/bytealg.IndexByteString"], apart := false }
def FnKeywordIsOneWordSaid : Prop := fnKeywordIsOneWordRow.holds Try.pinned (OpenSpec.ofChange fnKeywordIsOneWordSpec)

/-- ITS FALSE NEIGHBOUR: 'it returns false'. Refute it at one input. -/
def fnKeywordIsOneWordWrong : ChangeSpec := { name := "fnKeywordIsOneWord", fn := fun _ => fun
  | [d] => { results := [.lit (.bool false)], args := [d] }
  | _ => none }
def FnKeywordIsOneWordWrongFalsely : Prop := fnKeywordIsOneWordRow.holds Try.pinned (OpenSpec.ofChange fnKeywordIsOneWordWrong)

/-- 'zzlaws_dirdoc_b1.FnTextSplitsBackToArgs': WHATEVER THE INPUT: true; the input reads as it did. -/
def fnTextSplitsBackToArgsSpec : ChangeSpec := { name := "fnTextSplitsBackToArgs", fn := fun _ => fun
  | [d] => { results := [.lit (.bool true)], args := [d] }
  | _ => none }
def fnTextSplitsBackToArgsRow : OpenClaim := { program := "qxb6603737a", sum := "1c3039ab1c3ecd6cdef0788aee6cc574804b7fd5573f8755b8530752a297a1ce", func := "example.com/quorate/quorate/zzlaws_dirdoc_b1.FnTextSplitsBackToArgs", spec := "fnTextSplitsBackToArgs", inPlace := ["internal/abi.NoEscape", "internal/bytealg.MakeNoZero"], apart := false }
def FnTextSplitsBackToArgsSaid : Prop := fnTextSplitsBackToArgsRow.holds Try.pinned (OpenSpec.ofChange fnTextSplitsBackToArgsSpec)

/-- ITS FALSE NEIGHBOUR: 'it returns false'. Refute it at one input. -/
def fnTextSplitsBackToArgsWrong : ChangeSpec := { name := "fnTextSplitsBackToArgs", fn := fun _ => fun
  | [d] => { results := [.lit (.bool false)], args := [d] }
  | _ => none }
def FnTextSplitsBackToArgsWrongFalsely : Prop := fnTextSplitsBackToArgsRow.holds Try.pinned (OpenSpec.ofChange fnTextSplitsBackToArgsWrong)

/-- 'zzlaws_dirdoc_b1.FnTextFirstWordIsFirstArgs': WHATEVER THE INPUT: true; the input reads as it did. -/
def fnTextFirstWordIsFirstArgsSpec : ChangeSpec := { name := "fnTextFirstWordIsFirstArgs", fn := fun _ => fun
  | [d] => { results := [.lit (.bool true)], args := [d] }
  | _ => none }
def fnTextFirstWordIsFirstArgsRow : OpenClaim := { program := "qxb6603737a", sum := "1c3039ab1c3ecd6cdef0788aee6cc574804b7fd5573f8755b8530752a297a1ce", func := "example.com/quorate/quorate/zzlaws_dirdoc_b1.FnTextFirstWordIsFirstArgs", spec := "fnTextFirstWordIsFirstArgs", inPlace := ["internal/abi.NoEscape", "internal/bytealg.MakeNoZero", "internal/bytealg.IndexByteString"], apart := false }
def FnTextFirstWordIsFirstArgsSaid : Prop := fnTextFirstWordIsFirstArgsRow.holds Try.pinned (OpenSpec.ofChange fnTextFirstWordIsFirstArgsSpec)

/-- ITS FALSE NEIGHBOUR: 'it returns false'. Refute it at one input. -/
def fnTextFirstWordIsFirstArgsWrong : ChangeSpec := { name := "fnTextFirstWordIsFirstArgs", fn := fun _ => fun
  | [d] => { results := [.lit (.bool false)], args := [d] }
  | _ => none }
def FnTextFirstWordIsFirstArgsWrongFalsely : Prop := fnTextFirstWordIsFirstArgsRow.holds Try.pinned (OpenSpec.ofChange fnTextFirstWordIsFirstArgsWrong)

end Rows
end Go.Proofs.Qxb6603737a
