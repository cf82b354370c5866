/-
  No cell of these rows narrows 'for every input' (looked for: loops, veiled, ifaces, maps, wideKeys, modest, calm, conditions, laid).
  DERIVED. THE GIVEN ROWS OF THIS SEAT. 4 by the template 'for every input the law returns true; each argument reads behind the call as it read before'; 0 by the template 'total and deterministic' (their statements: Qxb6601537aTotals.lean).
  GIVEN WITH THE SEED: the statements are not yours to turn. If you find one false, say at which input.
  Laid BY PROGRAM, IN A SANDBOX (cutbox-rows.mjs): the forced cells as the released guide's own fill.sh prints them over the translation 474a2474cae4dc58… (all of the seat's roots in one cut). By AI agents, Wed Nov 11 2026. No macro, syntax, notation, axiom, sorry.
-/
import Derived.Test.Qxb6601537aChecked
import GoSem.Claim
import GoSem.ClaimJoined
import GoSem.ClaimMapViews
import Derived.JoinedTies
import Derived.KernelRfl
namespace Go.Proofs.Qxb6601537a
/- THE CELL 'sum', in the pinned program and in every row, IS THE sha256 OF THE DUMP (.gsa) THAT Qxb6601537aProg.lean LOADS. Nothing in Lean hashes anything: it is a label: what it is worth is what the hold of that sum in a sandbox is worth. -/
noncomputable def Try.pinned : Pinned := { name := "qxb6601537a", sum := "474a2474cae4dc58fc646875b1e7330770629a51ab6a9226145059ad3c856044", checked := Try.checked }
namespace Rows
def none {H : Type} : Left H := { results := [], args := [] }

/-- 'zzlaws_oauthclient_b1.FnCutTokenSplitsAtFirstNonTokenByte': WHATEVER THE INPUT: true; the input reads as it did. -/
def fnCutTokenSplitsAtFirstNonTokenByteSpec : ChangeSpec := { name := "fnCutTokenSplitsAtFirstNonTokenByte", fn := fun _ => fun
  | [d] => { results := [.lit (.bool true)], args := [d] }
  | _ => none }
def fnCutTokenSplitsAtFirstNonTokenByteRow : OpenClaim := { program := "qxb6601537a", sum := "474a2474cae4dc58fc646875b1e7330770629a51ab6a9226145059ad3c856044", func := "example.com/sello/sello/zzlaws_oauthclient_b1.FnCutTokenSplitsAtFirstNonTokenByte", spec := "fnCutTokenSplitsAtFirstNonTokenByte", inPlace := ["internal/bytealg.IndexByteString", "internal/bytealg.IndexString"], unfollowed := true, recurses := true, named := ["internal/bytealg.MaxLen"], apart := false }
def FnCutTokenSplitsAtFirstNonTokenByteSaid : Prop := fnCutTokenSplitsAtFirstNonTokenByteRow.holds Try.pinned (OpenSpec.ofChange fnCutTokenSplitsAtFirstNonTokenByteSpec)

/-- ITS FALSE NEIGHBOUR: 'it returns false'. Refute it at one input. -/
def fnCutTokenSplitsAtFirstNonTokenByteWrong : ChangeSpec := { name := "fnCutTokenSplitsAtFirstNonTokenByte", fn := fun _ => fun
  | [d] => { results := [.lit (.bool false)], args := [d] }
  | _ => none }
def FnCutTokenSplitsAtFirstNonTokenByteWrongFalsely : Prop := fnCutTokenSplitsAtFirstNonTokenByteRow.holds Try.pinned (OpenSpec.ofChange fnCutTokenSplitsAtFirstNonTokenByteWrong)

/-- 'zzlaws_oauthclient_b1.FnCutTokenPrefixOfTokenBytesShifts': WHATEVER THE INPUT: true; the input reads as it did. -/
def fnCutTokenPrefixOfTokenBytesShiftsSpec : ChangeSpec := { name := "fnCutTokenPrefixOfTokenBytesShifts", fn := fun _ => fun
  | [d1, d2] => { results := [.lit (.bool true)], args := [d1, d2] }
  | _ => none }
def fnCutTokenPrefixOfTokenBytesShiftsRow : OpenClaim := { program := "qxb6601537a", sum := "474a2474cae4dc58fc646875b1e7330770629a51ab6a9226145059ad3c856044", func := "example.com/sello/sello/zzlaws_oauthclient_b1.FnCutTokenPrefixOfTokenBytesShifts", spec := "fnCutTokenPrefixOfTokenBytesShifts", inPlace := ["internal/bytealg.IndexByteString", "internal/bytealg.IndexString"], unfollowed := true, recurses := true, named := ["internal/bytealg.MaxLen"], apart := false }
def FnCutTokenPrefixOfTokenBytesShiftsSaid : Prop := fnCutTokenPrefixOfTokenBytesShiftsRow.holds Try.pinned (OpenSpec.ofChange fnCutTokenPrefixOfTokenBytesShiftsSpec)

/-- ITS FALSE NEIGHBOUR: 'it returns false'. Refute it at one input. -/
def fnCutTokenPrefixOfTokenBytesShiftsWrong : ChangeSpec := { name := "fnCutTokenPrefixOfTokenBytesShifts", fn := fun _ => fun
  | [d1, d2] => { results := [.lit (.bool false)], args := [d1, d2] }
  | _ => none }
def FnCutTokenPrefixOfTokenBytesShiftsWrongFalsely : Prop := fnCutTokenPrefixOfTokenBytesShiftsRow.holds Try.pinned (OpenSpec.ofChange fnCutTokenPrefixOfTokenBytesShiftsWrong)

/-- 'zzlaws_oauthclient_b1.FnCutValueMatchesParityModel': WHATEVER THE INPUT: true; the input reads as it did. -/
def fnCutValueMatchesParityModelSpec : ChangeSpec := { name := "fnCutValueMatchesParityModel", fn := fun _ => fun
  | [d] => { results := [.lit (.bool true)], args := [d] }
  | _ => none }
def fnCutValueMatchesParityModelRow : OpenClaim := { program := "qxb6601537a", sum := "474a2474cae4dc58fc646875b1e7330770629a51ab6a9226145059ad3c856044", func := "example.com/sello/sello/zzlaws_oauthclient_b1.FnCutValueMatchesParityModel", spec := "fnCutValueMatchesParityModel", inPlace := ["internal/bytealg.IndexByteString", "internal/bytealg.IndexString", "internal/abi.NoEscape"], named := ["internal/bytealg.MaxLen"], apart := false }
def FnCutValueMatchesParityModelSaid : Prop := fnCutValueMatchesParityModelRow.holds Try.pinned (OpenSpec.ofChange fnCutValueMatchesParityModelSpec)

/-- ITS FALSE NEIGHBOUR: 'it returns false'. Refute it at one input. -/
def fnCutValueMatchesParityModelWrong : ChangeSpec := { name := "fnCutValueMatchesParityModel", fn := fun _ => fun
  | [d] => { results := [.lit (.bool false)], args := [d] }
  | _ => none }
def FnCutValueMatchesParityModelWrongFalsely : Prop := fnCutValueMatchesParityModelRow.holds Try.pinned (OpenSpec.ofChange fnCutValueMatchesParityModelWrong)

/-- 'zzlaws_oauthclient_b1.FnCutValueReadsBackQuotedValue': WHATEVER THE INPUT: true; the input reads as it did. -/
def fnCutValueReadsBackQuotedValueSpec : ChangeSpec := { name := "fnCutValueReadsBackQuotedValue", fn := fun _ => fun
  | [d1, d2] => { results := [.lit (.bool true)], args := [d1, d2] }
  | _ => none }
def fnCutValueReadsBackQuotedValueRow : OpenClaim := { program := "qxb6601537a", sum := "474a2474cae4dc58fc646875b1e7330770629a51ab6a9226145059ad3c856044", func := "example.com/sello/sello/zzlaws_oauthclient_b1.FnCutValueReadsBackQuotedValue", spec := "fnCutValueReadsBackQuotedValue", inPlace := ["internal/bytealg.IndexByteString", "internal/bytealg.IndexString", "internal/abi.NoEscape"], named := ["internal/bytealg.MaxLen"], apart := false }
def FnCutValueReadsBackQuotedValueSaid : Prop := fnCutValueReadsBackQuotedValueRow.holds Try.pinned (OpenSpec.ofChange fnCutValueReadsBackQuotedValueSpec)

/-- ITS FALSE NEIGHBOUR: 'it returns false'. Refute it at one input. -/
def fnCutValueReadsBackQuotedValueWrong : ChangeSpec := { name := "fnCutValueReadsBackQuotedValue", fn := fun _ => fun
  | [d1, d2] => { results := [.lit (.bool false)], args := [d1, d2] }
  | _ => none }
def FnCutValueReadsBackQuotedValueWrongFalsely : Prop := fnCutValueReadsBackQuotedValueRow.holds Try.pinned (OpenSpec.ofChange fnCutValueReadsBackQuotedValueWrong)

end Rows
end Go.Proofs.Qxb6601537a
