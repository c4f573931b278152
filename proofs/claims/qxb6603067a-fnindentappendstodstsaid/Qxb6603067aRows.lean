/-
  No cell of these rows narrows 'for every input' (looked for: loops, veiled, ifaces, maps, wideKeys, modest, calm, conditions, laid).
  DERIVED. THE GIVEN ROWS OF THIS SEAT. 7 by the template 'for every input the law returns true; each argument reads behind the call as it read before'; 0 by the template 'total and deterministic' (their statements: Qxb6603067aTotals.lean).
  GIVEN WITH THE SEED: the statements are not yours to turn. If you find one false, say at which input.
  Laid BY PROGRAM, IN A SANDBOX (cutbox-rows.mjs): the forced cells as the released guide's own fill.sh prints them over the translation a393a53e5ff42e87… (all of the seat's roots in one cut). By AI agents, Wed Nov 11 2026. No macro, syntax, notation, axiom, sorry.
-/
import Derived.Test.Qxb6603067aChecked
import GoSem.Claim
import GoSem.ClaimJoined
import GoSem.ClaimMapViews
import Derived.JoinedTies
import Derived.KernelRfl
namespace Go.Proofs.Qxb6603067a
/- THE CELL 'sum', in the pinned program and in every row, IS THE sha256 OF THE DUMP (.gsa) THAT Qxb6603067aProg.lean LOADS. Nothing in Lean hashes anything: it is a label: what it is worth is what the hold of that sum in a sandbox is worth. -/
noncomputable def Try.pinned : Pinned := { name := "qxb6603067a", sum := "a393a53e5ff42e8794cdf33f0f2c4335153c25b2db3ae7e95a320b7af5ee0375", checked := Try.checked }
namespace Rows
def none {H : Type} : Left H := { results := [], args := [] }

/-- 'zzlaws_internal_rawjson_b1.FnIndentMatchesLayoutModel': WHATEVER THE INPUT: true; the input reads as it did. -/
def fnIndentMatchesLayoutModelSpec : ChangeSpec := { name := "fnIndentMatchesLayoutModel", fn := fun _ => fun
  | [d1, d2, d3, d4] => { results := [.lit (.bool true)], args := [d1, d2, d3, d4] }
  | _ => none }
def fnIndentMatchesLayoutModelRow : OpenClaim := { program := "qxb6603067a", sum := "a393a53e5ff42e8794cdf33f0f2c4335153c25b2db3ae7e95a320b7af5ee0375", func := "example.com/shardwright/shardwright/zzlaws_internal_rawjson_b1.FnIndentMatchesLayoutModel", spec := "fnIndentMatchesLayoutModel", recurses := true, apart := false }
def FnIndentMatchesLayoutModelSaid : Prop := fnIndentMatchesLayoutModelRow.holds Try.pinned (OpenSpec.ofChange fnIndentMatchesLayoutModelSpec)

/-- ITS FALSE NEIGHBOUR: 'it returns false'. Refute it at one input. -/
def fnIndentMatchesLayoutModelWrong : ChangeSpec := { name := "fnIndentMatchesLayoutModel", fn := fun _ => fun
  | [d1, d2, d3, d4] => { results := [.lit (.bool false)], args := [d1, d2, d3, d4] }
  | _ => none }
def FnIndentMatchesLayoutModelWrongFalsely : Prop := fnIndentMatchesLayoutModelRow.holds Try.pinned (OpenSpec.ofChange fnIndentMatchesLayoutModelWrong)

/-- 'zzlaws_internal_rawjson_b1.FnIndentAppendsToDst': WHATEVER THE INPUT: true; the input reads as it did. -/
def fnIndentAppendsToDstSpec : ChangeSpec := { name := "fnIndentAppendsToDst", fn := fun _ => fun
  | [d1, d2, d3, d4] => { results := [.lit (.bool true)], args := [d1, d2, d3, d4] }
  | _ => none }
def fnIndentAppendsToDstRow : OpenClaim := { program := "qxb6603067a", sum := "a393a53e5ff42e8794cdf33f0f2c4335153c25b2db3ae7e95a320b7af5ee0375", func := "example.com/shardwright/shardwright/zzlaws_internal_rawjson_b1.FnIndentAppendsToDst", spec := "fnIndentAppendsToDst", recurses := true, apart := false }
def FnIndentAppendsToDstSaid : Prop := fnIndentAppendsToDstRow.holds Try.pinned (OpenSpec.ofChange fnIndentAppendsToDstSpec)

/-- ITS FALSE NEIGHBOUR: 'it returns false'. Refute it at one input. -/
def fnIndentAppendsToDstWrong : ChangeSpec := { name := "fnIndentAppendsToDst", fn := fun _ => fun
  | [d1, d2, d3, d4] => { results := [.lit (.bool false)], args := [d1, d2, d3, d4] }
  | _ => none }
def FnIndentAppendsToDstWrongFalsely : Prop := fnIndentAppendsToDstRow.holds Try.pinned (OpenSpec.ofChange fnIndentAppendsToDstWrong)

/-- 'zzlaws_internal_rawjson_b1.FnScanPiecewiseEqualsWhole': WHATEVER THE INPUT: true; the input reads as it did. -/
def fnScanPiecewiseEqualsWholeSpec : ChangeSpec := { name := "fnScanPiecewiseEqualsWhole", fn := fun _ => fun
  | [d1, d2, d3, d4, d5] => { results := [.lit (.bool true)], args := [d1, d2, d3, d4, d5] }
  | _ => none }
def fnScanPiecewiseEqualsWholeRow : OpenClaim := { program := "qxb6603067a", sum := "a393a53e5ff42e8794cdf33f0f2c4335153c25b2db3ae7e95a320b7af5ee0375", func := "example.com/shardwright/shardwright/zzlaws_internal_rawjson_b1.FnScanPiecewiseEqualsWhole", spec := "fnScanPiecewiseEqualsWhole", apart := false }
def FnScanPiecewiseEqualsWholeSaid : Prop := fnScanPiecewiseEqualsWholeRow.holds Try.pinned (OpenSpec.ofChange fnScanPiecewiseEqualsWholeSpec)

/-- ITS FALSE NEIGHBOUR: 'it returns false'. Refute it at one input. -/
def fnScanPiecewiseEqualsWholeWrong : ChangeSpec := { name := "fnScanPiecewiseEqualsWhole", fn := fun _ => fun
  | [d1, d2, d3, d4, d5] => { results := [.lit (.bool false)], args := [d1, d2, d3, d4, d5] }
  | _ => none }
def FnScanPiecewiseEqualsWholeWrongFalsely : Prop := fnScanPiecewiseEqualsWholeRow.holds Try.pinned (OpenSpec.ofChange fnScanPiecewiseEqualsWholeWrong)

/-- 'zzlaws_internal_rawjson_b1.FnScanBytewiseEqualsWhole': WHATEVER THE INPUT: true; the input reads as it did. -/
def fnScanBytewiseEqualsWholeSpec : ChangeSpec := { name := "fnScanBytewiseEqualsWhole", fn := fun _ => fun
  | [d1, d2, d3, d4] => { results := [.lit (.bool true)], args := [d1, d2, d3, d4] }
  | _ => none }
def fnScanBytewiseEqualsWholeRow : OpenClaim := { program := "qxb6603067a", sum := "a393a53e5ff42e8794cdf33f0f2c4335153c25b2db3ae7e95a320b7af5ee0375", func := "example.com/shardwright/shardwright/zzlaws_internal_rawjson_b1.FnScanBytewiseEqualsWhole", spec := "fnScanBytewiseEqualsWhole", apart := false }
def FnScanBytewiseEqualsWholeSaid : Prop := fnScanBytewiseEqualsWholeRow.holds Try.pinned (OpenSpec.ofChange fnScanBytewiseEqualsWholeSpec)

/-- ITS FALSE NEIGHBOUR: 'it returns false'. Refute it at one input. -/
def fnScanBytewiseEqualsWholeWrong : ChangeSpec := { name := "fnScanBytewiseEqualsWhole", fn := fun _ => fun
  | [d1, d2, d3, d4] => { results := [.lit (.bool false)], args := [d1, d2, d3, d4] }
  | _ => none }
def FnScanBytewiseEqualsWholeWrongFalsely : Prop := fnScanBytewiseEqualsWholeRow.holds Try.pinned (OpenSpec.ofChange fnScanBytewiseEqualsWholeWrong)

/-- 'zzlaws_internal_rawjson_b1.FnScanFindsEndOfValue': WHATEVER THE INPUT: true; the input reads as it did. -/
def fnScanFindsEndOfValueSpec : ChangeSpec := { name := "fnScanFindsEndOfValue", fn := fun _ => fun
  | [d1, d2] => { results := [.lit (.bool true)], args := [d1, d2] }
  | _ => none }
def fnScanFindsEndOfValueRow : OpenClaim := { program := "qxb6603067a", sum := "a393a53e5ff42e8794cdf33f0f2c4335153c25b2db3ae7e95a320b7af5ee0375", func := "example.com/shardwright/shardwright/zzlaws_internal_rawjson_b1.FnScanFindsEndOfValue", spec := "fnScanFindsEndOfValue", recurses := true, apart := false }
def FnScanFindsEndOfValueSaid : Prop := fnScanFindsEndOfValueRow.holds Try.pinned (OpenSpec.ofChange fnScanFindsEndOfValueSpec)

/-- ITS FALSE NEIGHBOUR: 'it returns false'. Refute it at one input. -/
def fnScanFindsEndOfValueWrong : ChangeSpec := { name := "fnScanFindsEndOfValue", fn := fun _ => fun
  | [d1, d2] => { results := [.lit (.bool false)], args := [d1, d2] }
  | _ => none }
def FnScanFindsEndOfValueWrongFalsely : Prop := fnScanFindsEndOfValueRow.holds Try.pinned (OpenSpec.ofChange fnScanFindsEndOfValueWrong)

/-- 'zzlaws_internal_rawjson_b1.FnIntegerMatchesDecimalSpec': WHATEVER THE INPUT: true; the input reads as it did. -/
def fnIntegerMatchesDecimalSpecSpec : ChangeSpec := { name := "fnIntegerMatchesDecimalSpec", fn := fun _ => fun
  | [d1, d2, d3] => { results := [.lit (.bool true)], args := [d1, d2, d3] }
  | _ => none }
def fnIntegerMatchesDecimalSpecRow : OpenClaim := { program := "qxb6603067a", sum := "a393a53e5ff42e8794cdf33f0f2c4335153c25b2db3ae7e95a320b7af5ee0375", func := "example.com/shardwright/shardwright/zzlaws_internal_rawjson_b1.FnIntegerMatchesDecimalSpec", spec := "fnIntegerMatchesDecimalSpec", apart := false }
def FnIntegerMatchesDecimalSpecSaid : Prop := fnIntegerMatchesDecimalSpecRow.holds Try.pinned (OpenSpec.ofChange fnIntegerMatchesDecimalSpecSpec)

/-- ITS FALSE NEIGHBOUR: 'it returns false'. Refute it at one input. -/
def fnIntegerMatchesDecimalSpecWrong : ChangeSpec := { name := "fnIntegerMatchesDecimalSpec", fn := fun _ => fun
  | [d1, d2, d3] => { results := [.lit (.bool false)], args := [d1, d2, d3] }
  | _ => none }
def FnIntegerMatchesDecimalSpecWrongFalsely : Prop := fnIntegerMatchesDecimalSpecRow.holds Try.pinned (OpenSpec.ofChange fnIntegerMatchesDecimalSpecWrong)

/-- 'zzlaws_internal_rawjson_b1.FnIntegerWiderBitsKeepsAnswer': WHATEVER THE INPUT: true; the input reads as it did. -/
def fnIntegerWiderBitsKeepsAnswerSpec : ChangeSpec := { name := "fnIntegerWiderBitsKeepsAnswer", fn := fun _ => fun
  | [d1, d2, d3, d4] => { results := [.lit (.bool true)], args := [d1, d2, d3, d4] }
  | _ => none }
def fnIntegerWiderBitsKeepsAnswerRow : OpenClaim := { program := "qxb6603067a", sum := "a393a53e5ff42e8794cdf33f0f2c4335153c25b2db3ae7e95a320b7af5ee0375", func := "example.com/shardwright/shardwright/zzlaws_internal_rawjson_b1.FnIntegerWiderBitsKeepsAnswer", spec := "fnIntegerWiderBitsKeepsAnswer", apart := false }
def FnIntegerWiderBitsKeepsAnswerSaid : Prop := fnIntegerWiderBitsKeepsAnswerRow.holds Try.pinned (OpenSpec.ofChange fnIntegerWiderBitsKeepsAnswerSpec)

/-- ITS FALSE NEIGHBOUR: 'it returns false'. Refute it at one input. -/
def fnIntegerWiderBitsKeepsAnswerWrong : ChangeSpec := { name := "fnIntegerWiderBitsKeepsAnswer", fn := fun _ => fun
  | [d1, d2, d3, d4] => { results := [.lit (.bool false)], args := [d1, d2, d3, d4] }
  | _ => none }
def FnIntegerWiderBitsKeepsAnswerWrongFalsely : Prop := fnIntegerWiderBitsKeepsAnswerRow.holds Try.pinned (OpenSpec.ofChange fnIntegerWiderBitsKeepsAnswerWrong)

end Rows
end Go.Proofs.Qxb6603067a
