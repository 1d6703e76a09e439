/-
  No cell of these rows narrows 'for every input' (looked for: loops, veiled, ifaces, maps, wideKeys, modest, calm, conditions, laid).
  DERIVED. THE GIVEN ROWS OF THIS SEAT. 2 by the template 'for every input the law returns true; each argument reads behind the call as it read before'; 0 by the template 'total and deterministic' (their statements: Qxb6604077aTotals.lean).
  GIVEN WITH THE SEED: the statements are not yours to turn. If you find one false, say at which input.
  Laid BY PROGRAM, IN A SANDBOX (cutbox-rows.mjs): the forced cells as the released guide's own fill.sh prints them over the translation 6518def8f84dd91c… (all of the seat's roots in one cut). By AI agents, Wed Nov 11 2026. No macro, syntax, notation, axiom, sorry.
-/
import Derived.Test.Qxb6604077aChecked
import GoSem.Claim
import GoSem.ClaimJoined
import GoSem.ClaimMapViews
import Derived.JoinedTies
import Derived.KernelRfl
namespace Go.Proofs.Qxb6604077a
/- THE CELL 'sum', in the pinned program and in every row, IS THE sha256 OF THE DUMP (.gsa) THAT Qxb6604077aProg.lean LOADS. Nothing in Lean hashes anything: it is a label: what it is worth is what the hold of that sum in a sandbox is worth. -/
noncomputable def Try.pinned : Pinned := { name := "qxb6604077a", sum := "6518def8f84dd91c50ba1c163e76c3e7edca847087a0324d91499420971ac543", checked := Try.checked }
namespace Rows
def none {H : Type} : Left H := { results := [], args := [] }

/-- 'zzlaws_ca_b1.FnReadLocalPartQuotedRoundTrip': WHATEVER THE INPUT: true; the input reads as it did. -/
def fnReadLocalPartQuotedRoundTripSpec : ChangeSpec := { name := "fnReadLocalPartQuotedRoundTrip", fn := fun _ => fun
  | [d1, d2] => { results := [.lit (.bool true)], args := [d1, d2] }
  | _ => none }
def fnReadLocalPartQuotedRoundTripRow : OpenClaim := { program := "qxb6604077a", sum := "6518def8f84dd91c50ba1c163e76c3e7edca847087a0324d91499420971ac543", func := "example.com/meshwright/meshwright/zzlaws_ca_b1.FnReadLocalPartQuotedRoundTrip", spec := "fnReadLocalPartQuotedRoundTrip", inPlace := ["internal/bytealg.IndexByteString", "internal/bytealg.IndexString", "internal/abi.NoEscape"], named := ["internal/bytealg.MaxLen"], apart := false }
def FnReadLocalPartQuotedRoundTripSaid : Prop := fnReadLocalPartQuotedRoundTripRow.holds Try.pinned (OpenSpec.ofChange fnReadLocalPartQuotedRoundTripSpec)

/-- ITS FALSE NEIGHBOUR: 'it returns false'. Refute it at one input. -/
def fnReadLocalPartQuotedRoundTripWrong : ChangeSpec := { name := "fnReadLocalPartQuotedRoundTrip", fn := fun _ => fun
  | [d1, d2] => { results := [.lit (.bool false)], args := [d1, d2] }
  | _ => none }
def FnReadLocalPartQuotedRoundTripWrongFalsely : Prop := fnReadLocalPartQuotedRoundTripRow.holds Try.pinned (OpenSpec.ofChange fnReadLocalPartQuotedRoundTripWrong)

/-- 'zzlaws_ca_b1.FnReadLocalPartEscapedAtomRoundTrip': WHATEVER THE INPUT: true; the input reads as it did. -/
def fnReadLocalPartEscapedAtomRoundTripSpec : ChangeSpec := { name := "fnReadLocalPartEscapedAtomRoundTrip", fn := fun _ => fun
  | [d1, d2] => { results := [.lit (.bool true)], args := [d1, d2] }
  | _ => none }
def fnReadLocalPartEscapedAtomRoundTripRow : OpenClaim := { program := "qxb6604077a", sum := "6518def8f84dd91c50ba1c163e76c3e7edca847087a0324d91499420971ac543", func := "example.com/meshwright/meshwright/zzlaws_ca_b1.FnReadLocalPartEscapedAtomRoundTrip", spec := "fnReadLocalPartEscapedAtomRoundTrip", inPlace := ["internal/bytealg.IndexByteString", "internal/bytealg.IndexString", "internal/abi.NoEscape"], named := ["internal/bytealg.MaxLen"], apart := false }
def FnReadLocalPartEscapedAtomRoundTripSaid : Prop := fnReadLocalPartEscapedAtomRoundTripRow.holds Try.pinned (OpenSpec.ofChange fnReadLocalPartEscapedAtomRoundTripSpec)

/-- ITS FALSE NEIGHBOUR: 'it returns false'. Refute it at one input. -/
def fnReadLocalPartEscapedAtomRoundTripWrong : ChangeSpec := { name := "fnReadLocalPartEscapedAtomRoundTrip", fn := fun _ => fun
  | [d1, d2] => { results := [.lit (.bool false)], args := [d1, d2] }
  | _ => none }
def FnReadLocalPartEscapedAtomRoundTripWrongFalsely : Prop := fnReadLocalPartEscapedAtomRoundTripRow.holds Try.pinned (OpenSpec.ofChange fnReadLocalPartEscapedAtomRoundTripWrong)

end Rows
end Go.Proofs.Qxb6604077a
