/-
  No cell of these rows narrows 'for every input' (looked for: loops, veiled, ifaces, maps, wideKeys, modest, calm, conditions, laid).
  DERIVED. THE GIVEN ROWS OF THIS SEAT. 7 by the template 'for every input the law returns true; each argument reads behind the call as it read before'; 0 by the template 'total and deterministic' (their statements: Qxb6601164aTotals.lean).
  GIVEN WITH THE SEED: the statements are not yours to turn. If you find one false, say at which input.
  Laid BY PROGRAM, IN A SANDBOX (cutbox-rows.mjs): the forced cells as the released guide's own fill.sh prints them over the translation 41314b578957db0d… (all of the seat's roots in one cut). By AI agents, Wed Nov 11 2026. No macro, syntax, notation, axiom, sorry.
-/
import Derived.Test.Qxb6601164aChecked
import GoSem.Claim
import GoSem.ClaimJoined
import GoSem.ClaimMapViews
import Derived.JoinedTies
import Derived.KernelRfl
namespace Go.Proofs.Qxb6601164a
/- THE CELL 'sum', in the pinned program and in every row, IS THE sha256 OF THE DUMP (.gsa) THAT Qxb6601164aProg.lean LOADS. Nothing in Lean hashes anything: it is a label: what it is worth is what the hold of that sum in a sandbox is worth. -/
noncomputable def Try.pinned : Pinned := { name := "qxb6601164a", sum := "41314b578957db0de5ebc926d9018e328d7fe6346a051dbf0ddfeadc60b67d2e", checked := Try.checked }
namespace Rows
def none {H : Type} : Left H := { results := [], args := [] }

/-- 'zzlaws_root_b1.FnGcdMatchesBinaryGcd': WHATEVER THE INPUT: true; the input reads as it did. -/
def fnGcdMatchesBinaryGcdSpec : ChangeSpec := { name := "fnGcdMatchesBinaryGcd", fn := fun _ => fun
  | [d1, d2] => { results := [.lit (.bool true)], args := [d1, d2] }
  | _ => none }
def fnGcdMatchesBinaryGcdRow : OpenClaim := { program := "qxb6601164a", sum := "41314b578957db0de5ebc926d9018e328d7fe6346a051dbf0ddfeadc60b67d2e", func := "example.com/avdrag/avdrag/zzlaws_root_b1.FnGcdMatchesBinaryGcd", spec := "fnGcdMatchesBinaryGcd", apart := false }
def FnGcdMatchesBinaryGcdSaid : Prop := fnGcdMatchesBinaryGcdRow.holds Try.pinned (OpenSpec.ofChange fnGcdMatchesBinaryGcdSpec)

/-- ITS FALSE NEIGHBOUR: 'it returns false'. Refute it at one input. -/
def fnGcdMatchesBinaryGcdWrong : ChangeSpec := { name := "fnGcdMatchesBinaryGcd", fn := fun _ => fun
  | [d1, d2] => { results := [.lit (.bool false)], args := [d1, d2] }
  | _ => none }
def FnGcdMatchesBinaryGcdWrongFalsely : Prop := fnGcdMatchesBinaryGcdRow.holds Try.pinned (OpenSpec.ofChange fnGcdMatchesBinaryGcdWrong)

/-- 'zzlaws_root_b1.FnGcdIsGreatestCommonDivisor': WHATEVER THE INPUT: true; the input reads as it did. -/
def fnGcdIsGreatestCommonDivisorSpec : ChangeSpec := { name := "fnGcdIsGreatestCommonDivisor", fn := fun _ => fun
  | [d1, d2] => { results := [.lit (.bool true)], args := [d1, d2] }
  | _ => none }
def fnGcdIsGreatestCommonDivisorRow : OpenClaim := { program := "qxb6601164a", sum := "41314b578957db0de5ebc926d9018e328d7fe6346a051dbf0ddfeadc60b67d2e", func := "example.com/avdrag/avdrag/zzlaws_root_b1.FnGcdIsGreatestCommonDivisor", spec := "fnGcdIsGreatestCommonDivisor", apart := false }
def FnGcdIsGreatestCommonDivisorSaid : Prop := fnGcdIsGreatestCommonDivisorRow.holds Try.pinned (OpenSpec.ofChange fnGcdIsGreatestCommonDivisorSpec)

/-- ITS FALSE NEIGHBOUR: 'it returns false'. Refute it at one input. -/
def fnGcdIsGreatestCommonDivisorWrong : ChangeSpec := { name := "fnGcdIsGreatestCommonDivisor", fn := fun _ => fun
  | [d1, d2] => { results := [.lit (.bool false)], args := [d1, d2] }
  | _ => none }
def FnGcdIsGreatestCommonDivisorWrongFalsely : Prop := fnGcdIsGreatestCommonDivisorRow.holds Try.pinned (OpenSpec.ofChange fnGcdIsGreatestCommonDivisorWrong)

/-- 'zzlaws_root_b1.FnGcdSymmetricAndBounded': WHATEVER THE INPUT: true; the input reads as it did. -/
def fnGcdSymmetricAndBoundedSpec : ChangeSpec := { name := "fnGcdSymmetricAndBounded", fn := fun _ => fun
  | [d1, d2] => { results := [.lit (.bool true)], args := [d1, d2] }
  | _ => none }
def fnGcdSymmetricAndBoundedRow : OpenClaim := { program := "qxb6601164a", sum := "41314b578957db0de5ebc926d9018e328d7fe6346a051dbf0ddfeadc60b67d2e", func := "example.com/avdrag/avdrag/zzlaws_root_b1.FnGcdSymmetricAndBounded", spec := "fnGcdSymmetricAndBounded", apart := false }
def FnGcdSymmetricAndBoundedSaid : Prop := fnGcdSymmetricAndBoundedRow.holds Try.pinned (OpenSpec.ofChange fnGcdSymmetricAndBoundedSpec)

/-- ITS FALSE NEIGHBOUR: 'it returns false'. Refute it at one input. -/
def fnGcdSymmetricAndBoundedWrong : ChangeSpec := { name := "fnGcdSymmetricAndBounded", fn := fun _ => fun
  | [d1, d2] => { results := [.lit (.bool false)], args := [d1, d2] }
  | _ => none }
def FnGcdSymmetricAndBoundedWrongFalsely : Prop := fnGcdSymmetricAndBoundedRow.holds Try.pinned (OpenSpec.ofChange fnGcdSymmetricAndBoundedWrong)

/-- 'zzlaws_root_b1.FnAllDigitsOfConcatenation': WHATEVER THE INPUT: true; the input reads as it did. -/
def fnAllDigitsOfConcatenationSpec : ChangeSpec := { name := "fnAllDigitsOfConcatenation", fn := fun _ => fun
  | [d1, d2] => { results := [.lit (.bool true)], args := [d1, d2] }
  | _ => none }
def fnAllDigitsOfConcatenationRow : OpenClaim := { program := "qxb6601164a", sum := "41314b578957db0de5ebc926d9018e328d7fe6346a051dbf0ddfeadc60b67d2e", func := "example.com/avdrag/avdrag/zzlaws_root_b1.FnAllDigitsOfConcatenation", spec := "fnAllDigitsOfConcatenation", apart := false }
def FnAllDigitsOfConcatenationSaid : Prop := fnAllDigitsOfConcatenationRow.holds Try.pinned (OpenSpec.ofChange fnAllDigitsOfConcatenationSpec)

/-- ITS FALSE NEIGHBOUR: 'it returns false'. Refute it at one input. -/
def fnAllDigitsOfConcatenationWrong : ChangeSpec := { name := "fnAllDigitsOfConcatenation", fn := fun _ => fun
  | [d1, d2] => { results := [.lit (.bool false)], args := [d1, d2] }
  | _ => none }
def FnAllDigitsOfConcatenationWrongFalsely : Prop := fnAllDigitsOfConcatenationRow.holds Try.pinned (OpenSpec.ofChange fnAllDigitsOfConcatenationWrong)

/-- 'zzlaws_root_b1.FnIsPlainNumberMatchesScanModel': WHATEVER THE INPUT: true; the input reads as it did. -/
def fnIsPlainNumberMatchesScanModelSpec : ChangeSpec := { name := "fnIsPlainNumberMatchesScanModel", fn := fun _ => fun
  | [d1, d2] => { results := [.lit (.bool true)], args := [d1, d2] }
  | _ => none }
def fnIsPlainNumberMatchesScanModelRow : OpenClaim := { program := "qxb6601164a", sum := "41314b578957db0de5ebc926d9018e328d7fe6346a051dbf0ddfeadc60b67d2e", func := "example.com/avdrag/avdrag/zzlaws_root_b1.FnIsPlainNumberMatchesScanModel", spec := "fnIsPlainNumberMatchesScanModel", inPlace := ["internal/bytealg.IndexByteString", "internal/bytealg.IndexString"], named := ["internal/bytealg.MaxLen"], apart := false }
def FnIsPlainNumberMatchesScanModelSaid : Prop := fnIsPlainNumberMatchesScanModelRow.holds Try.pinned (OpenSpec.ofChange fnIsPlainNumberMatchesScanModelSpec)

/-- ITS FALSE NEIGHBOUR: 'it returns false'. Refute it at one input. -/
def fnIsPlainNumberMatchesScanModelWrong : ChangeSpec := { name := "fnIsPlainNumberMatchesScanModel", fn := fun _ => fun
  | [d1, d2] => { results := [.lit (.bool false)], args := [d1, d2] }
  | _ => none }
def FnIsPlainNumberMatchesScanModelWrongFalsely : Prop := fnIsPlainNumberMatchesScanModelRow.holds Try.pinned (OpenSpec.ofChange fnIsPlainNumberMatchesScanModelWrong)

/-- 'zzlaws_root_b1.FnIsPlainNumberOneMinusSign': WHATEVER THE INPUT: true; the input reads as it did. -/
def fnIsPlainNumberOneMinusSignSpec : ChangeSpec := { name := "fnIsPlainNumberOneMinusSign", fn := fun _ => fun
  | [d1, d2] => { results := [.lit (.bool true)], args := [d1, d2] }
  | _ => none }
def fnIsPlainNumberOneMinusSignRow : OpenClaim := { program := "qxb6601164a", sum := "41314b578957db0de5ebc926d9018e328d7fe6346a051dbf0ddfeadc60b67d2e", func := "example.com/avdrag/avdrag/zzlaws_root_b1.FnIsPlainNumberOneMinusSign", spec := "fnIsPlainNumberOneMinusSign", inPlace := ["internal/bytealg.IndexByteString", "internal/bytealg.IndexString"], named := ["internal/bytealg.MaxLen"], apart := false }
def FnIsPlainNumberOneMinusSignSaid : Prop := fnIsPlainNumberOneMinusSignRow.holds Try.pinned (OpenSpec.ofChange fnIsPlainNumberOneMinusSignSpec)

/-- ITS FALSE NEIGHBOUR: 'it returns false'. Refute it at one input. -/
def fnIsPlainNumberOneMinusSignWrong : ChangeSpec := { name := "fnIsPlainNumberOneMinusSign", fn := fun _ => fun
  | [d1, d2] => { results := [.lit (.bool false)], args := [d1, d2] }
  | _ => none }
def FnIsPlainNumberOneMinusSignWrongFalsely : Prop := fnIsPlainNumberOneMinusSignRow.holds Try.pinned (OpenSpec.ofChange fnIsPlainNumberOneMinusSignWrong)

/-- 'zzlaws_root_b1.FnIsPlainNumberJoinsAtPoint': WHATEVER THE INPUT: true; the input reads as it did. -/
def fnIsPlainNumberJoinsAtPointSpec : ChangeSpec := { name := "fnIsPlainNumberJoinsAtPoint", fn := fun _ => fun
  | [d1, d2] => { results := [.lit (.bool true)], args := [d1, d2] }
  | _ => none }
def fnIsPlainNumberJoinsAtPointRow : OpenClaim := { program := "qxb6601164a", sum := "41314b578957db0de5ebc926d9018e328d7fe6346a051dbf0ddfeadc60b67d2e", func := "example.com/avdrag/avdrag/zzlaws_root_b1.FnIsPlainNumberJoinsAtPoint", spec := "fnIsPlainNumberJoinsAtPoint", inPlace := ["internal/bytealg.IndexByteString", "internal/bytealg.IndexString"], named := ["internal/bytealg.MaxLen"], apart := false }
def FnIsPlainNumberJoinsAtPointSaid : Prop := fnIsPlainNumberJoinsAtPointRow.holds Try.pinned (OpenSpec.ofChange fnIsPlainNumberJoinsAtPointSpec)

/-- ITS FALSE NEIGHBOUR: 'it returns false'. Refute it at one input. -/
def fnIsPlainNumberJoinsAtPointWrong : ChangeSpec := { name := "fnIsPlainNumberJoinsAtPoint", fn := fun _ => fun
  | [d1, d2] => { results := [.lit (.bool false)], args := [d1, d2] }
  | _ => none }
def FnIsPlainNumberJoinsAtPointWrongFalsely : Prop := fnIsPlainNumberJoinsAtPointRow.holds Try.pinned (OpenSpec.ofChange fnIsPlainNumberJoinsAtPointWrong)

end Rows
end Go.Proofs.Qxb6601164a
