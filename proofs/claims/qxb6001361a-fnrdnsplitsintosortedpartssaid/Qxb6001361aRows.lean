/-
  No cell of these rows narrows 'for every input' (looked for: loops, veiled, ifaces, maps, wideKeys, modest, calm, conditions, laid).
  DERIVED. THE GIVEN ROWS OF THIS SEAT. 7 by the template 'for every input the law returns true; each argument reads behind the call as it read before'; 0 by the template 'total and deterministic' (their statements: Qxb6001361aTotals.lean).
  GIVEN WITH THE SEED: the statements are not yours to turn. If you find one false, say at which input.
  Laid BY PROGRAM, IN A SANDBOX (cutbox-rows.mjs): the forced cells as the released guide's own fill.sh prints them over the translation ac8d8e6014ce0f33… (all of the seat's roots in one cut). By AI agents, Wed Nov 11 2026. No macro, syntax, notation, axiom, sorry.
-/
import Derived.Test.Qxb6001361aChecked
import GoSem.Claim
import GoSem.ClaimJoined
import GoSem.ClaimMapViews
import Derived.JoinedTies
import Derived.KernelRfl
namespace Go.Proofs.Qxb6001361a
/- THE CELL 'sum', in the pinned program and in every row, IS THE sha256 OF THE DUMP (.gsa) THAT Qxb6001361aProg.lean LOADS. Nothing in Lean hashes anything: it is a label: what it is worth is what the hold of that sum in a sandbox is worth. -/
noncomputable def Try.pinned : Pinned := { name := "qxb6001361a", sum := "ac8d8e6014ce0f33a6f28ac706cbe735843b1400ace6a9b4b81410969e1d7c7d", checked := Try.checked }
namespace Rows
def none {H : Type} : Left H := { results := [], args := [] }

/-- 'zzlaws_internal_dn_b1.FnValueRoundTrips': WHATEVER THE INPUT: true; the input reads as it did. -/
def fnValueRoundTripsSpec : ChangeSpec := { name := "fnValueRoundTrips", fn := fun _ => fun
  | [d] => { results := [.lit (.bool true)], args := [d] }
  | _ => none }
def fnValueRoundTripsRow : OpenClaim := { program := "qxb6001361a", sum := "ac8d8e6014ce0f33a6f28ac706cbe735843b1400ace6a9b4b81410969e1d7c7d", func := "example.com/commitree/commitree/zzlaws_internal_dn_b1.FnValueRoundTrips", spec := "fnValueRoundTrips", inPlace := ["internal/abi.NoEscape", "internal/bytealg.IndexByteString"], apart := false }
def FnValueRoundTripsSaid : Prop := fnValueRoundTripsRow.holds Try.pinned (OpenSpec.ofChange fnValueRoundTripsSpec)

/-- ITS FALSE NEIGHBOUR: 'it returns false'. Refute it at one input. -/
def fnValueRoundTripsWrong : ChangeSpec := { name := "fnValueRoundTrips", fn := fun _ => fun
  | [d] => { results := [.lit (.bool false)], args := [d] }
  | _ => none }
def FnValueRoundTripsWrongFalsely : Prop := fnValueRoundTripsRow.holds Try.pinned (OpenSpec.ofChange fnValueRoundTripsWrong)

/-- 'zzlaws_internal_dn_b1.FnValueEscapedIsSafe': WHATEVER THE INPUT: true; the input reads as it did. -/
def fnValueEscapedIsSafeSpec : ChangeSpec := { name := "fnValueEscapedIsSafe", fn := fun _ => fun
  | [d] => { results := [.lit (.bool true)], args := [d] }
  | _ => none }
def fnValueEscapedIsSafeRow : OpenClaim := { program := "qxb6001361a", sum := "ac8d8e6014ce0f33a6f28ac706cbe735843b1400ace6a9b4b81410969e1d7c7d", func := "example.com/commitree/commitree/zzlaws_internal_dn_b1.FnValueEscapedIsSafe", spec := "fnValueEscapedIsSafe", inPlace := ["internal/abi.NoEscape", "internal/bytealg.IndexByteString"], apart := false }
def FnValueEscapedIsSafeSaid : Prop := fnValueEscapedIsSafeRow.holds Try.pinned (OpenSpec.ofChange fnValueEscapedIsSafeSpec)

/-- ITS FALSE NEIGHBOUR: 'it returns false'. Refute it at one input. -/
def fnValueEscapedIsSafeWrong : ChangeSpec := { name := "fnValueEscapedIsSafe", fn := fun _ => fun
  | [d] => { results := [.lit (.bool false)], args := [d] }
  | _ => none }
def FnValueEscapedIsSafeWrongFalsely : Prop := fnValueEscapedIsSafeRow.holds Try.pinned (OpenSpec.ofChange fnValueEscapedIsSafeWrong)

/-- 'zzlaws_internal_dn_b1.FnValueAppendsWithinThreefold': WHATEVER THE INPUT: true; the input reads as it did. -/
def fnValueAppendsWithinThreefoldSpec : ChangeSpec := { name := "fnValueAppendsWithinThreefold", fn := fun _ => fun
  | [d1, d2] => { results := [.lit (.bool true)], args := [d1, d2] }
  | _ => none }
def fnValueAppendsWithinThreefoldRow : OpenClaim := { program := "qxb6001361a", sum := "ac8d8e6014ce0f33a6f28ac706cbe735843b1400ace6a9b4b81410969e1d7c7d", func := "example.com/commitree/commitree/zzlaws_internal_dn_b1.FnValueAppendsWithinThreefold", spec := "fnValueAppendsWithinThreefold", inPlace := ["internal/abi.NoEscape", "internal/bytealg.IndexByteString"], apart := false }
def FnValueAppendsWithinThreefoldSaid : Prop := fnValueAppendsWithinThreefoldRow.holds Try.pinned (OpenSpec.ofChange fnValueAppendsWithinThreefoldSpec)

/-- ITS FALSE NEIGHBOUR: 'it returns false'. Refute it at one input. -/
def fnValueAppendsWithinThreefoldWrong : ChangeSpec := { name := "fnValueAppendsWithinThreefold", fn := fun _ => fun
  | [d1, d2] => { results := [.lit (.bool false)], args := [d1, d2] }
  | _ => none }
def FnValueAppendsWithinThreefoldWrongFalsely : Prop := fnValueAppendsWithinThreefoldRow.holds Try.pinned (OpenSpec.ofChange fnValueAppendsWithinThreefoldWrong)

/-- 'zzlaws_internal_dn_b1.FnPartTypeCaseFolds': WHATEVER THE INPUT: true; the input reads as it did. -/
def fnPartTypeCaseFoldsSpec : ChangeSpec := { name := "fnPartTypeCaseFolds", fn := fun _ => fun
  | [d1, d2] => { results := [.lit (.bool true)], args := [d1, d2] }
  | _ => none }
def fnPartTypeCaseFoldsRow : OpenClaim := { program := "qxb6001361a", sum := "ac8d8e6014ce0f33a6f28ac706cbe735843b1400ace6a9b4b81410969e1d7c7d", func := "example.com/commitree/commitree/zzlaws_internal_dn_b1.FnPartTypeCaseFolds", spec := "fnPartTypeCaseFolds", inPlace := ["internal/abi.NoEscape", "internal/bytealg.MakeNoZero", "internal/bytealg.IndexByteString"], apart := false }
def FnPartTypeCaseFoldsSaid : Prop := fnPartTypeCaseFoldsRow.holds Try.pinned (OpenSpec.ofChange fnPartTypeCaseFoldsSpec)

/-- ITS FALSE NEIGHBOUR: 'it returns false'. Refute it at one input. -/
def fnPartTypeCaseFoldsWrong : ChangeSpec := { name := "fnPartTypeCaseFolds", fn := fun _ => fun
  | [d1, d2] => { results := [.lit (.bool false)], args := [d1, d2] }
  | _ => none }
def FnPartTypeCaseFoldsWrongFalsely : Prop := fnPartTypeCaseFoldsRow.holds Try.pinned (OpenSpec.ofChange fnPartTypeCaseFoldsWrong)

/-- 'zzlaws_internal_dn_b1.FnPartSplitsBack': WHATEVER THE INPUT: true; the input reads as it did. -/
def fnPartSplitsBackSpec : ChangeSpec := { name := "fnPartSplitsBack", fn := fun _ => fun
  | [d1, d2] => { results := [.lit (.bool true)], args := [d1, d2] }
  | _ => none }
def fnPartSplitsBackRow : OpenClaim := { program := "qxb6001361a", sum := "ac8d8e6014ce0f33a6f28ac706cbe735843b1400ace6a9b4b81410969e1d7c7d", func := "example.com/commitree/commitree/zzlaws_internal_dn_b1.FnPartSplitsBack", spec := "fnPartSplitsBack", inPlace := ["internal/abi.NoEscape", "internal/bytealg.MakeNoZero", "internal/bytealg.IndexByteString"], apart := false }
def FnPartSplitsBackSaid : Prop := fnPartSplitsBackRow.holds Try.pinned (OpenSpec.ofChange fnPartSplitsBackSpec)

/-- ITS FALSE NEIGHBOUR: 'it returns false'. Refute it at one input. -/
def fnPartSplitsBackWrong : ChangeSpec := { name := "fnPartSplitsBack", fn := fun _ => fun
  | [d1, d2] => { results := [.lit (.bool false)], args := [d1, d2] }
  | _ => none }
def FnPartSplitsBackWrongFalsely : Prop := fnPartSplitsBackRow.holds Try.pinned (OpenSpec.ofChange fnPartSplitsBackWrong)

/-- 'zzlaws_internal_dn_b1.FnRDNOrderFree': WHATEVER THE INPUT: true; the input reads as it did. -/
def fnRDNOrderFreeSpec : ChangeSpec := { name := "fnRDNOrderFree", fn := fun _ => fun
  | [d1, d2, d3, d4] => { results := [.lit (.bool true)], args := [d1, d2, d3, d4] }
  | _ => none }
def fnRDNOrderFreeRow : OpenClaim := { program := "qxb6001361a", sum := "ac8d8e6014ce0f33a6f28ac706cbe735843b1400ace6a9b4b81410969e1d7c7d", func := "example.com/commitree/commitree/zzlaws_internal_dn_b1.FnRDNOrderFree", spec := "fnRDNOrderFree", inPlace := ["internal/abi.NoEscape", "internal/bytealg.MakeNoZero", "internal/bytealg.IndexByteString"], recurses := true, apart := false }
def FnRDNOrderFreeSaid : Prop := fnRDNOrderFreeRow.holds Try.pinned (OpenSpec.ofChange fnRDNOrderFreeSpec)

/-- ITS FALSE NEIGHBOUR: 'it returns false'. Refute it at one input. -/
def fnRDNOrderFreeWrong : ChangeSpec := { name := "fnRDNOrderFree", fn := fun _ => fun
  | [d1, d2, d3, d4] => { results := [.lit (.bool false)], args := [d1, d2, d3, d4] }
  | _ => none }
def FnRDNOrderFreeWrongFalsely : Prop := fnRDNOrderFreeRow.holds Try.pinned (OpenSpec.ofChange fnRDNOrderFreeWrong)

/-- 'zzlaws_internal_dn_b1.FnRDNSplitsIntoSortedParts': WHATEVER THE INPUT: true; the input reads as it did. -/
def fnRDNSplitsIntoSortedPartsSpec : ChangeSpec := { name := "fnRDNSplitsIntoSortedParts", fn := fun _ => fun
  | [d1, d2] => { results := [.lit (.bool true)], args := [d1, d2] }
  | _ => none }
def fnRDNSplitsIntoSortedPartsRow : OpenClaim := { program := "qxb6001361a", sum := "ac8d8e6014ce0f33a6f28ac706cbe735843b1400ace6a9b4b81410969e1d7c7d", func := "example.com/commitree/commitree/zzlaws_internal_dn_b1.FnRDNSplitsIntoSortedParts", spec := "fnRDNSplitsIntoSortedParts", inPlace := ["internal/abi.NoEscape", "internal/bytealg.MakeNoZero", "internal/bytealg.IndexByteString"], recurses := true, apart := false }
def FnRDNSplitsIntoSortedPartsSaid : Prop := fnRDNSplitsIntoSortedPartsRow.holds Try.pinned (OpenSpec.ofChange fnRDNSplitsIntoSortedPartsSpec)

/-- ITS FALSE NEIGHBOUR: 'it returns false'. Refute it at one input. -/
def fnRDNSplitsIntoSortedPartsWrong : ChangeSpec := { name := "fnRDNSplitsIntoSortedParts", fn := fun _ => fun
  | [d1, d2] => { results := [.lit (.bool false)], args := [d1, d2] }
  | _ => none }
def FnRDNSplitsIntoSortedPartsWrongFalsely : Prop := fnRDNSplitsIntoSortedPartsRow.holds Try.pinned (OpenSpec.ofChange fnRDNSplitsIntoSortedPartsWrong)

end Rows
end Go.Proofs.Qxb6001361a
