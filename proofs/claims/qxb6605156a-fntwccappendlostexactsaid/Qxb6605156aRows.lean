/-
  No cell of these rows narrows 'for every input' (looked for: loops, veiled, ifaces, maps, wideKeys, modest, calm, conditions, laid).
  DERIVED. THE GIVEN ROWS OF THIS SEAT. 5 by the template 'for every input the law returns true; each argument reads behind the call as it read before'; 0 by the template 'total and deterministic' (their statements: Qxb6605156aTotals.lean).
  GIVEN WITH THE SEED: the statements are not yours to turn. If you find one false, say at which input.
  Laid BY PROGRAM, IN A SANDBOX (cutbox-rows.mjs): the forced cells as the released guide's own fill.sh prints them over the translation 53a2c7e49eab1989… (all of the seat's roots in one cut). By AI agents, Wed Nov 11 2026. No macro, syntax, notation, axiom, sorry.
-/
import Derived.Test.Qxb6605156aChecked
import GoSem.Claim
import GoSem.ClaimJoined
import GoSem.ClaimMapViews
import Derived.JoinedTies
import Derived.KernelRfl
namespace Go.Proofs.Qxb6605156a
/- THE CELL 'sum', in the pinned program and in every row, IS THE sha256 OF THE DUMP (.gsa) THAT Qxb6605156aProg.lean LOADS. Nothing in Lean hashes anything: it is a label: what it is worth is what the hold of that sum in a sandbox is worth. -/
noncomputable def Try.pinned : Pinned := { name := "qxb6605156a", sum := "53a2c7e49eab198958c051f8739589f918551383d399dcfae43378239a44337f", checked := Try.checked }
namespace Rows
def none {H : Type} : Left H := { results := [], args := [] }

/-- 'zzlaws_root_b1.FnNACKAppendLostExact': WHATEVER THE INPUT: true; the input reads as it did. -/
def fnNACKAppendLostExactSpec : ChangeSpec := { name := "fnNACKAppendLostExact", fn := fun _ => fun
  | [d1, d2, d3] => { results := [.lit (.bool true)], args := [d1, d2, d3] }
  | _ => none }
def fnNACKAppendLostExactRow : OpenClaim := { program := "qxb6605156a", sum := "53a2c7e49eab198958c051f8739589f918551383d399dcfae43378239a44337f", func := "example.com/tellback/tellback/zzlaws_root_b1.FnNACKAppendLostExact", spec := "fnNACKAppendLostExact", apart := false }
def FnNACKAppendLostExactSaid : Prop := fnNACKAppendLostExactRow.holds Try.pinned (OpenSpec.ofChange fnNACKAppendLostExactSpec)

/-- ITS FALSE NEIGHBOUR: 'it returns false'. Refute it at one input. -/
def fnNACKAppendLostExactWrong : ChangeSpec := { name := "fnNACKAppendLostExact", fn := fun _ => fun
  | [d1, d2, d3] => { results := [.lit (.bool false)], args := [d1, d2, d3] }
  | _ => none }
def FnNACKAppendLostExactWrongFalsely : Prop := fnNACKAppendLostExactRow.holds Try.pinned (OpenSpec.ofChange fnNACKAppendLostExactWrong)

/-- 'zzlaws_root_b1.FnNACKAgreesWithTWCC': WHATEVER THE INPUT: true; the input reads as it did. -/
def fnNACKAgreesWithTWCCSpec : ChangeSpec := { name := "fnNACKAgreesWithTWCC", fn := fun _ => fun
  | [d1, d2] => { results := [.lit (.bool true)], args := [d1, d2] }
  | _ => none }
def fnNACKAgreesWithTWCCRow : OpenClaim := { program := "qxb6605156a", sum := "53a2c7e49eab198958c051f8739589f918551383d399dcfae43378239a44337f", func := "example.com/tellback/tellback/zzlaws_root_b1.FnNACKAgreesWithTWCC", spec := "fnNACKAgreesWithTWCC", apart := false }
def FnNACKAgreesWithTWCCSaid : Prop := fnNACKAgreesWithTWCCRow.holds Try.pinned (OpenSpec.ofChange fnNACKAgreesWithTWCCSpec)

/-- ITS FALSE NEIGHBOUR: 'it returns false'. Refute it at one input. -/
def fnNACKAgreesWithTWCCWrong : ChangeSpec := { name := "fnNACKAgreesWithTWCC", fn := fun _ => fun
  | [d1, d2] => { results := [.lit (.bool false)], args := [d1, d2] }
  | _ => none }
def FnNACKAgreesWithTWCCWrongFalsely : Prop := fnNACKAgreesWithTWCCRow.holds Try.pinned (OpenSpec.ofChange fnNACKAgreesWithTWCCWrong)

/-- 'zzlaws_root_b1.FnTWCCAppendLostExact': WHATEVER THE INPUT: true; the input reads as it did. -/
def fnTWCCAppendLostExactSpec : ChangeSpec := { name := "fnTWCCAppendLostExact", fn := fun _ => fun
  | [d1, d2, d3, d4, d5, d6, d7, d8, d9] => { results := [.lit (.bool true)], args := [d1, d2, d3, d4, d5, d6, d7, d8, d9] }
  | _ => none }
def fnTWCCAppendLostExactRow : OpenClaim := { program := "qxb6605156a", sum := "53a2c7e49eab198958c051f8739589f918551383d399dcfae43378239a44337f", func := "example.com/tellback/tellback/zzlaws_root_b1.FnTWCCAppendLostExact", spec := "fnTWCCAppendLostExact", apart := false }
def FnTWCCAppendLostExactSaid : Prop := fnTWCCAppendLostExactRow.holds Try.pinned (OpenSpec.ofChange fnTWCCAppendLostExactSpec)

/-- ITS FALSE NEIGHBOUR: 'it returns false'. Refute it at one input. -/
def fnTWCCAppendLostExactWrong : ChangeSpec := { name := "fnTWCCAppendLostExact", fn := fun _ => fun
  | [d1, d2, d3, d4, d5, d6, d7, d8, d9] => { results := [.lit (.bool false)], args := [d1, d2, d3, d4, d5, d6, d7, d8, d9] }
  | _ => none }
def FnTWCCAppendLostExactWrongFalsely : Prop := fnTWCCAppendLostExactRow.holds Try.pinned (OpenSpec.ofChange fnTWCCAppendLostExactWrong)

/-- 'zzlaws_root_b1.FnTWCCLostAndReceivedTileTheRange': WHATEVER THE INPUT: true; the input reads as it did. -/
def fnTWCCLostAndReceivedTileTheRangeSpec : ChangeSpec := { name := "fnTWCCLostAndReceivedTileTheRange", fn := fun _ => fun
  | [d1, d2, d3, d4, d5, d6, d7, d8, d9] => { results := [.lit (.bool true)], args := [d1, d2, d3, d4, d5, d6, d7, d8, d9] }
  | _ => none }
def fnTWCCLostAndReceivedTileTheRangeRow : OpenClaim := { program := "qxb6605156a", sum := "53a2c7e49eab198958c051f8739589f918551383d399dcfae43378239a44337f", func := "example.com/tellback/tellback/zzlaws_root_b1.FnTWCCLostAndReceivedTileTheRange", spec := "fnTWCCLostAndReceivedTileTheRange", apart := false }
def FnTWCCLostAndReceivedTileTheRangeSaid : Prop := fnTWCCLostAndReceivedTileTheRangeRow.holds Try.pinned (OpenSpec.ofChange fnTWCCLostAndReceivedTileTheRangeSpec)

/-- ITS FALSE NEIGHBOUR: 'it returns false'. Refute it at one input. -/
def fnTWCCLostAndReceivedTileTheRangeWrong : ChangeSpec := { name := "fnTWCCLostAndReceivedTileTheRange", fn := fun _ => fun
  | [d1, d2, d3, d4, d5, d6, d7, d8, d9] => { results := [.lit (.bool false)], args := [d1, d2, d3, d4, d5, d6, d7, d8, d9] }
  | _ => none }
def FnTWCCLostAndReceivedTileTheRangeWrongFalsely : Prop := fnTWCCLostAndReceivedTileTheRangeRow.holds Try.pinned (OpenSpec.ofChange fnTWCCLostAndReceivedTileTheRangeWrong)

/-- 'zzlaws_root_b1.FnAllZeroMatchesByteSum': WHATEVER THE INPUT: true; the input reads as it did. -/
def fnAllZeroMatchesByteSumSpec : ChangeSpec := { name := "fnAllZeroMatchesByteSum", fn := fun _ => fun
  | [d] => { results := [.lit (.bool true)], args := [d] }
  | _ => none }
def fnAllZeroMatchesByteSumRow : OpenClaim := { program := "qxb6605156a", sum := "53a2c7e49eab198958c051f8739589f918551383d399dcfae43378239a44337f", func := "example.com/tellback/tellback/zzlaws_root_b1.FnAllZeroMatchesByteSum", spec := "fnAllZeroMatchesByteSum", apart := false }
def FnAllZeroMatchesByteSumSaid : Prop := fnAllZeroMatchesByteSumRow.holds Try.pinned (OpenSpec.ofChange fnAllZeroMatchesByteSumSpec)

/-- ITS FALSE NEIGHBOUR: 'it returns false'. Refute it at one input. -/
def fnAllZeroMatchesByteSumWrong : ChangeSpec := { name := "fnAllZeroMatchesByteSum", fn := fun _ => fun
  | [d] => { results := [.lit (.bool false)], args := [d] }
  | _ => none }
def FnAllZeroMatchesByteSumWrongFalsely : Prop := fnAllZeroMatchesByteSumRow.holds Try.pinned (OpenSpec.ofChange fnAllZeroMatchesByteSumWrong)

end Rows
end Go.Proofs.Qxb6605156a
