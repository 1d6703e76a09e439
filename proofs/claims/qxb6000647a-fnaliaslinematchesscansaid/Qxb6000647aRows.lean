/-
  No cell of these rows narrows 'for every input' (looked for: loops, veiled, ifaces, maps, wideKeys, modest, calm, conditions, laid).
  DERIVED. THE GIVEN ROWS OF THIS SEAT. 6 by the template 'for every input the law returns true; each argument reads behind the call as it read before'; 0 by the template 'total and deterministic' (their statements: Qxb6000647aTotals.lean).
  GIVEN WITH THE SEED: the statements are not yours to turn. If you find one false, say at which input.
  Laid BY PROGRAM, IN A SANDBOX (cutbox-rows.mjs): the forced cells as the released guide's own fill.sh prints them over the translation 54a66e83960d80eb… (all of the seat's roots in one cut). By AI agents, Wed Nov 11 2026. No macro, syntax, notation, axiom, sorry.
-/
import Derived.Test.Qxb6000647aChecked
import GoSem.Claim
import GoSem.ClaimJoined
import GoSem.ClaimMapViews
import Derived.JoinedTies
import Derived.KernelRfl
namespace Go.Proofs.Qxb6000647a
/- THE CELL 'sum', in the pinned program and in every row, IS THE sha256 OF THE DUMP (.gsa) THAT Qxb6000647aProg.lean LOADS. Nothing in Lean hashes anything: it is a label: what it is worth is what the hold of that sum in a sandbox is worth. -/
noncomputable def Try.pinned : Pinned := { name := "qxb6000647a", sum := "54a66e83960d80ebf3ec2dc52f9762ec5db80abe0eb50175666962c3139481e2", checked := Try.checked }
namespace Rows
def none {H : Type} : Left H := { results := [], args := [] }

/-- 'zzlaws_modelfile_b1.FnIsNumberMatchesGrammar': WHATEVER THE INPUT: true; the input reads as it did. -/
def fnIsNumberMatchesGrammarSpec : ChangeSpec := { name := "fnIsNumberMatchesGrammar", fn := fun _ => fun
  | [d] => { results := [.lit (.bool true)], args := [d] }
  | _ => none }
def fnIsNumberMatchesGrammarRow : OpenClaim := { program := "qxb6000647a", sum := "54a66e83960d80ebf3ec2dc52f9762ec5db80abe0eb50175666962c3139481e2", func := "example.com/unravel-rights/unravel-rights/zzlaws_modelfile_b1.FnIsNumberMatchesGrammar", spec := "fnIsNumberMatchesGrammar", apart := false }
def FnIsNumberMatchesGrammarSaid : Prop := fnIsNumberMatchesGrammarRow.holds Try.pinned (OpenSpec.ofChange fnIsNumberMatchesGrammarSpec)

/-- ITS FALSE NEIGHBOUR: 'it returns false'. Refute it at one input. -/
def fnIsNumberMatchesGrammarWrong : ChangeSpec := { name := "fnIsNumberMatchesGrammar", fn := fun _ => fun
  | [d] => { results := [.lit (.bool false)], args := [d] }
  | _ => none }
def FnIsNumberMatchesGrammarWrongFalsely : Prop := fnIsNumberMatchesGrammarRow.holds Try.pinned (OpenSpec.ofChange fnIsNumberMatchesGrammarWrong)

/-- 'zzlaws_modelfile_b1.FnIsNumberMinus': WHATEVER THE INPUT: true; the input reads as it did. -/
def fnIsNumberMinusSpec : ChangeSpec := { name := "fnIsNumberMinus", fn := fun _ => fun
  | [d] => { results := [.lit (.bool true)], args := [d] }
  | _ => none }
def fnIsNumberMinusRow : OpenClaim := { program := "qxb6000647a", sum := "54a66e83960d80ebf3ec2dc52f9762ec5db80abe0eb50175666962c3139481e2", func := "example.com/unravel-rights/unravel-rights/zzlaws_modelfile_b1.FnIsNumberMinus", spec := "fnIsNumberMinus", apart := false }
def FnIsNumberMinusSaid : Prop := fnIsNumberMinusRow.holds Try.pinned (OpenSpec.ofChange fnIsNumberMinusSpec)

/-- ITS FALSE NEIGHBOUR: 'it returns false'. Refute it at one input. -/
def fnIsNumberMinusWrong : ChangeSpec := { name := "fnIsNumberMinus", fn := fun _ => fun
  | [d] => { results := [.lit (.bool false)], args := [d] }
  | _ => none }
def FnIsNumberMinusWrongFalsely : Prop := fnIsNumberMinusRow.holds Try.pinned (OpenSpec.ofChange fnIsNumberMinusWrong)

/-- 'zzlaws_modelfile_b1.FnIsNumberTakesMoreDigits': WHATEVER THE INPUT: true; the input reads as it did. -/
def fnIsNumberTakesMoreDigitsSpec : ChangeSpec := { name := "fnIsNumberTakesMoreDigits", fn := fun _ => fun
  | [d] => { results := [.lit (.bool true)], args := [d] }
  | _ => none }
def fnIsNumberTakesMoreDigitsRow : OpenClaim := { program := "qxb6000647a", sum := "54a66e83960d80ebf3ec2dc52f9762ec5db80abe0eb50175666962c3139481e2", func := "example.com/unravel-rights/unravel-rights/zzlaws_modelfile_b1.FnIsNumberTakesMoreDigits", spec := "fnIsNumberTakesMoreDigits", apart := false }
def FnIsNumberTakesMoreDigitsSaid : Prop := fnIsNumberTakesMoreDigitsRow.holds Try.pinned (OpenSpec.ofChange fnIsNumberTakesMoreDigitsSpec)

/-- ITS FALSE NEIGHBOUR: 'it returns false'. Refute it at one input. -/
def fnIsNumberTakesMoreDigitsWrong : ChangeSpec := { name := "fnIsNumberTakesMoreDigits", fn := fun _ => fun
  | [d] => { results := [.lit (.bool false)], args := [d] }
  | _ => none }
def FnIsNumberTakesMoreDigitsWrongFalsely : Prop := fnIsNumberTakesMoreDigitsRow.holds Try.pinned (OpenSpec.ofChange fnIsNumberTakesMoreDigitsWrong)

/-- 'zzlaws_modelfile_b1.FnAliasLineMatchesScan': WHATEVER THE INPUT: true; the input reads as it did. -/
def fnAliasLineMatchesScanSpec : ChangeSpec := { name := "fnAliasLineMatchesScan", fn := fun _ => fun
  | [d1, d2] => { results := [.lit (.bool true)], args := [d1, d2] }
  | _ => none }
def fnAliasLineMatchesScanRow : OpenClaim := { program := "qxb6000647a", sum := "54a66e83960d80ebf3ec2dc52f9762ec5db80abe0eb50175666962c3139481e2", func := "example.com/unravel-rights/unravel-rights/zzlaws_modelfile_b1.FnAliasLineMatchesScan", spec := "fnAliasLineMatchesScan", inPlace := ["internal/bytealg.IndexByte", "internal/bytealg.Index", "internal/bytealg.CountString", "internal/bytealg.IndexByteString", "internal/bytealg.IndexString"], named := ["internal/bytealg.MaxLen"], apart := false }
def FnAliasLineMatchesScanSaid : Prop := fnAliasLineMatchesScanRow.holds Try.pinned (OpenSpec.ofChange fnAliasLineMatchesScanSpec)

/-- ITS FALSE NEIGHBOUR: 'it returns false'. Refute it at one input. -/
def fnAliasLineMatchesScanWrong : ChangeSpec := { name := "fnAliasLineMatchesScan", fn := fun _ => fun
  | [d1, d2] => { results := [.lit (.bool false)], args := [d1, d2] }
  | _ => none }
def FnAliasLineMatchesScanWrongFalsely : Prop := fnAliasLineMatchesScanRow.holds Try.pinned (OpenSpec.ofChange fnAliasLineMatchesScanWrong)

/-- 'zzlaws_modelfile_b1.FnAliasLineLeadingBreak': WHATEVER THE INPUT: true; the input reads as it did. -/
def fnAliasLineLeadingBreakSpec : ChangeSpec := { name := "fnAliasLineLeadingBreak", fn := fun _ => fun
  | [d1, d2] => { results := [.lit (.bool true)], args := [d1, d2] }
  | _ => none }
def fnAliasLineLeadingBreakRow : OpenClaim := { program := "qxb6000647a", sum := "54a66e83960d80ebf3ec2dc52f9762ec5db80abe0eb50175666962c3139481e2", func := "example.com/unravel-rights/unravel-rights/zzlaws_modelfile_b1.FnAliasLineLeadingBreak", spec := "fnAliasLineLeadingBreak", inPlace := ["internal/bytealg.IndexByte", "internal/bytealg.Index", "internal/bytealg.CountString", "internal/bytealg.IndexByteString", "internal/bytealg.IndexString"], named := ["internal/bytealg.MaxLen"], apart := false }
def FnAliasLineLeadingBreakSaid : Prop := fnAliasLineLeadingBreakRow.holds Try.pinned (OpenSpec.ofChange fnAliasLineLeadingBreakSpec)

/-- ITS FALSE NEIGHBOUR: 'it returns false'. Refute it at one input. -/
def fnAliasLineLeadingBreakWrong : ChangeSpec := { name := "fnAliasLineLeadingBreak", fn := fun _ => fun
  | [d1, d2] => { results := [.lit (.bool false)], args := [d1, d2] }
  | _ => none }
def FnAliasLineLeadingBreakWrongFalsely : Prop := fnAliasLineLeadingBreakRow.holds Try.pinned (OpenSpec.ofChange fnAliasLineLeadingBreakWrong)

/-- 'zzlaws_modelfile_b1.FnAliasLineTrailingSpace': WHATEVER THE INPUT: true; the input reads as it did. -/
def fnAliasLineTrailingSpaceSpec : ChangeSpec := { name := "fnAliasLineTrailingSpace", fn := fun _ => fun
  | [d1, d2] => { results := [.lit (.bool true)], args := [d1, d2] }
  | _ => none }
def fnAliasLineTrailingSpaceRow : OpenClaim := { program := "qxb6000647a", sum := "54a66e83960d80ebf3ec2dc52f9762ec5db80abe0eb50175666962c3139481e2", func := "example.com/unravel-rights/unravel-rights/zzlaws_modelfile_b1.FnAliasLineTrailingSpace", spec := "fnAliasLineTrailingSpace", inPlace := ["internal/bytealg.IndexByte", "internal/bytealg.Index", "internal/bytealg.CountString", "internal/bytealg.IndexByteString", "internal/bytealg.IndexString"], named := ["internal/bytealg.MaxLen"], apart := false }
def FnAliasLineTrailingSpaceSaid : Prop := fnAliasLineTrailingSpaceRow.holds Try.pinned (OpenSpec.ofChange fnAliasLineTrailingSpaceSpec)

/-- ITS FALSE NEIGHBOUR: 'it returns false'. Refute it at one input. -/
def fnAliasLineTrailingSpaceWrong : ChangeSpec := { name := "fnAliasLineTrailingSpace", fn := fun _ => fun
  | [d1, d2] => { results := [.lit (.bool false)], args := [d1, d2] }
  | _ => none }
def FnAliasLineTrailingSpaceWrongFalsely : Prop := fnAliasLineTrailingSpaceRow.holds Try.pinned (OpenSpec.ofChange fnAliasLineTrailingSpaceWrong)

end Rows
end Go.Proofs.Qxb6000647a
