/-
  No cell of these rows narrows 'for every input' (looked for: loops, veiled, ifaces, maps, wideKeys, modest, calm, conditions, laid).
  DERIVED. THE GIVEN ROWS OF THIS SEAT. 5 by the template 'for every input the law returns true; each argument reads behind the call as it read before'; 0 by the template 'total and deterministic' (their statements: Qxb6000905aTotals.lean).
  GIVEN WITH THE SEED: the statements are not yours to turn. If you find one false, say at which input.
  Laid BY PROGRAM, IN A SANDBOX (cutbox-rows.mjs): the forced cells as the released guide's own fill.sh prints them over the translation 07f2b0c38e6914ae… (all of the seat's roots in one cut). By AI agents, Wed Nov 11 2026. No macro, syntax, notation, axiom, sorry.
-/
import Derived.Test.Qxb6000905aChecked
import GoSem.Claim
import GoSem.ClaimJoined
import GoSem.ClaimMapViews
import Derived.JoinedTies
import Derived.KernelRfl
namespace Go.Proofs.Qxb6000905a
/- THE CELL 'sum', in the pinned program and in every row, IS THE sha256 OF THE DUMP (.gsa) THAT Qxb6000905aProg.lean LOADS. Nothing in Lean hashes anything: it is a label: what it is worth is what the hold of that sum in a sandbox is worth. -/
noncomputable def Try.pinned : Pinned := { name := "qxb6000905a", sum := "07f2b0c38e6914ae5838b607145271d5f5e1dd0b58225495446c0a6403b0cfa5", checked := Try.checked }
namespace Rows
def none {H : Type} : Left H := { results := [], args := [] }

/-- 'zzlaws_internal_registry_b1.FnCutTokenLongestTokenPrefix': WHATEVER THE INPUT: true; the input reads as it did. -/
def fnCutTokenLongestTokenPrefixSpec : ChangeSpec := { name := "fnCutTokenLongestTokenPrefix", fn := fun _ => fun
  | [d] => { results := [.lit (.bool true)], args := [d] }
  | _ => none }
def fnCutTokenLongestTokenPrefixRow : OpenClaim := { program := "qxb6000905a", sum := "07f2b0c38e6914ae5838b607145271d5f5e1dd0b58225495446c0a6403b0cfa5", func := "example.com/mayfly/mayfly/zzlaws_internal_registry_b1.FnCutTokenLongestTokenPrefix", spec := "fnCutTokenLongestTokenPrefix", inPlace := ["internal/bytealg.IndexByteString", "internal/bytealg.IndexString"], unfollowed := true, recurses := true, named := ["internal/bytealg.MaxLen"], apart := false }
def FnCutTokenLongestTokenPrefixSaid : Prop := fnCutTokenLongestTokenPrefixRow.holds Try.pinned (OpenSpec.ofChange fnCutTokenLongestTokenPrefixSpec)

/-- ITS FALSE NEIGHBOUR: 'it returns false'. Refute it at one input. -/
def fnCutTokenLongestTokenPrefixWrong : ChangeSpec := { name := "fnCutTokenLongestTokenPrefix", fn := fun _ => fun
  | [d] => { results := [.lit (.bool false)], args := [d] }
  | _ => none }
def FnCutTokenLongestTokenPrefixWrongFalsely : Prop := fnCutTokenLongestTokenPrefixRow.holds Try.pinned (OpenSpec.ofChange fnCutTokenLongestTokenPrefixWrong)

/-- 'zzlaws_internal_registry_b1.FnCutTokenStableUnderExtension': WHATEVER THE INPUT: true; the input reads as it did. -/
def fnCutTokenStableUnderExtensionSpec : ChangeSpec := { name := "fnCutTokenStableUnderExtension", fn := fun _ => fun
  | [d1, d2] => { results := [.lit (.bool true)], args := [d1, d2] }
  | _ => none }
def fnCutTokenStableUnderExtensionRow : OpenClaim := { program := "qxb6000905a", sum := "07f2b0c38e6914ae5838b607145271d5f5e1dd0b58225495446c0a6403b0cfa5", func := "example.com/mayfly/mayfly/zzlaws_internal_registry_b1.FnCutTokenStableUnderExtension", spec := "fnCutTokenStableUnderExtension", inPlace := ["internal/bytealg.IndexByteString", "internal/bytealg.IndexString"], unfollowed := true, recurses := true, named := ["internal/bytealg.MaxLen"], apart := false }
def FnCutTokenStableUnderExtensionSaid : Prop := fnCutTokenStableUnderExtensionRow.holds Try.pinned (OpenSpec.ofChange fnCutTokenStableUnderExtensionSpec)

/-- ITS FALSE NEIGHBOUR: 'it returns false'. Refute it at one input. -/
def fnCutTokenStableUnderExtensionWrong : ChangeSpec := { name := "fnCutTokenStableUnderExtension", fn := fun _ => fun
  | [d1, d2] => { results := [.lit (.bool false)], args := [d1, d2] }
  | _ => none }
def FnCutTokenStableUnderExtensionWrongFalsely : Prop := fnCutTokenStableUnderExtensionRow.holds Try.pinned (OpenSpec.ofChange fnCutTokenStableUnderExtensionWrong)

/-- 'zzlaws_internal_registry_b1.FnCutValueUnquotedSplitsAtSeparator': WHATEVER THE INPUT: true; the input reads as it did. -/
def fnCutValueUnquotedSplitsAtSeparatorSpec : ChangeSpec := { name := "fnCutValueUnquotedSplitsAtSeparator", fn := fun _ => fun
  | [d] => { results := [.lit (.bool true)], args := [d] }
  | _ => none }
def fnCutValueUnquotedSplitsAtSeparatorRow : OpenClaim := { program := "qxb6000905a", sum := "07f2b0c38e6914ae5838b607145271d5f5e1dd0b58225495446c0a6403b0cfa5", func := "example.com/mayfly/mayfly/zzlaws_internal_registry_b1.FnCutValueUnquotedSplitsAtSeparator", spec := "fnCutValueUnquotedSplitsAtSeparator", inPlace := ["internal/bytealg.IndexByteString", "internal/bytealg.IndexString", "internal/abi.NoEscape"], named := ["internal/bytealg.MaxLen"], apart := false }
def FnCutValueUnquotedSplitsAtSeparatorSaid : Prop := fnCutValueUnquotedSplitsAtSeparatorRow.holds Try.pinned (OpenSpec.ofChange fnCutValueUnquotedSplitsAtSeparatorSpec)

/-- ITS FALSE NEIGHBOUR: 'it returns false'. Refute it at one input. -/
def fnCutValueUnquotedSplitsAtSeparatorWrong : ChangeSpec := { name := "fnCutValueUnquotedSplitsAtSeparator", fn := fun _ => fun
  | [d] => { results := [.lit (.bool false)], args := [d] }
  | _ => none }
def FnCutValueUnquotedSplitsAtSeparatorWrongFalsely : Prop := fnCutValueUnquotedSplitsAtSeparatorRow.holds Try.pinned (OpenSpec.ofChange fnCutValueUnquotedSplitsAtSeparatorWrong)

/-- 'zzlaws_internal_registry_b1.FnCutValueQuotedRoundTrip': WHATEVER THE INPUT: true; the input reads as it did. -/
def fnCutValueQuotedRoundTripSpec : ChangeSpec := { name := "fnCutValueQuotedRoundTrip", fn := fun _ => fun
  | [d1, d2] => { results := [.lit (.bool true)], args := [d1, d2] }
  | _ => none }
def fnCutValueQuotedRoundTripRow : OpenClaim := { program := "qxb6000905a", sum := "07f2b0c38e6914ae5838b607145271d5f5e1dd0b58225495446c0a6403b0cfa5", func := "example.com/mayfly/mayfly/zzlaws_internal_registry_b1.FnCutValueQuotedRoundTrip", spec := "fnCutValueQuotedRoundTrip", inPlace := ["internal/bytealg.IndexByteString", "internal/bytealg.IndexString", "internal/abi.NoEscape"], named := ["internal/bytealg.MaxLen"], apart := false }
def FnCutValueQuotedRoundTripSaid : Prop := fnCutValueQuotedRoundTripRow.holds Try.pinned (OpenSpec.ofChange fnCutValueQuotedRoundTripSpec)

/-- ITS FALSE NEIGHBOUR: 'it returns false'. Refute it at one input. -/
def fnCutValueQuotedRoundTripWrong : ChangeSpec := { name := "fnCutValueQuotedRoundTrip", fn := fun _ => fun
  | [d1, d2] => { results := [.lit (.bool false)], args := [d1, d2] }
  | _ => none }
def FnCutValueQuotedRoundTripWrongFalsely : Prop := fnCutValueQuotedRoundTripRow.holds Try.pinned (OpenSpec.ofChange fnCutValueQuotedRoundTripWrong)

/-- 'zzlaws_internal_registry_b1.FnCutValueRestIsSuffix': WHATEVER THE INPUT: true; the input reads as it did. -/
def fnCutValueRestIsSuffixSpec : ChangeSpec := { name := "fnCutValueRestIsSuffix", fn := fun _ => fun
  | [d] => { results := [.lit (.bool true)], args := [d] }
  | _ => none }
def fnCutValueRestIsSuffixRow : OpenClaim := { program := "qxb6000905a", sum := "07f2b0c38e6914ae5838b607145271d5f5e1dd0b58225495446c0a6403b0cfa5", func := "example.com/mayfly/mayfly/zzlaws_internal_registry_b1.FnCutValueRestIsSuffix", spec := "fnCutValueRestIsSuffix", inPlace := ["internal/bytealg.IndexByteString", "internal/bytealg.IndexString", "internal/abi.NoEscape"], named := ["internal/bytealg.MaxLen"], apart := false }
def FnCutValueRestIsSuffixSaid : Prop := fnCutValueRestIsSuffixRow.holds Try.pinned (OpenSpec.ofChange fnCutValueRestIsSuffixSpec)

/-- ITS FALSE NEIGHBOUR: 'it returns false'. Refute it at one input. -/
def fnCutValueRestIsSuffixWrong : ChangeSpec := { name := "fnCutValueRestIsSuffix", fn := fun _ => fun
  | [d] => { results := [.lit (.bool false)], args := [d] }
  | _ => none }
def FnCutValueRestIsSuffixWrongFalsely : Prop := fnCutValueRestIsSuffixRow.holds Try.pinned (OpenSpec.ofChange fnCutValueRestIsSuffixWrong)

end Rows
end Go.Proofs.Qxb6000905a
