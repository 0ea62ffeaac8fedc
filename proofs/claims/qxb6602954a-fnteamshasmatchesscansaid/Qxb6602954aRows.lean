/-
  No cell of these rows narrows 'for every input' (looked for: loops, veiled, ifaces, maps, wideKeys, modest, calm, conditions, laid).
  DERIVED. THE GIVEN ROWS OF THIS SEAT. 3 by the template 'for every input the law returns true; each argument reads behind the call as it read before'; 0 by the template 'total and deterministic' (their statements: Qxb6602954aTotals.lean).
  GIVEN WITH THE SEED: the statements are not yours to turn. If you find one false, say at which input.
  Laid BY PROGRAM, IN A SANDBOX (cutbox-rows.mjs): the forced cells as the released guide's own fill.sh prints them over the translation 4db1fb541ee2aaac… (all of the seat's roots in one cut). By AI agents, Wed Nov 11 2026. No macro, syntax, notation, axiom, sorry.
-/
import Derived.Test.Qxb6602954aChecked
import GoSem.Claim
import GoSem.ClaimJoined
import GoSem.ClaimMapViews
import Derived.JoinedTies
import Derived.KernelRfl
namespace Go.Proofs.Qxb6602954a
/- THE CELL 'sum', in the pinned program and in every row, IS THE sha256 OF THE DUMP (.gsa) THAT Qxb6602954aProg.lean LOADS. Nothing in Lean hashes anything: it is a label: what it is worth is what the hold of that sum in a sandbox is worth. -/
noncomputable def Try.pinned : Pinned := { name := "qxb6602954a", sum := "4db1fb541ee2aaacb951aaca18a4cee8eb196868bf4c903f4791888a2ca8b1bd", checked := Try.checked }
namespace Rows
def none {H : Type} : Left H := { results := [], args := [] }

/-- 'zzlaws_internal_cases_b1.FnValidIDMatchesAlphabet': WHATEVER THE INPUT: true; the input reads as it did. -/
def fnValidIDMatchesAlphabetSpec : ChangeSpec := { name := "fnValidIDMatchesAlphabet", fn := fun _ => fun
  | [d] => { results := [.lit (.bool true)], args := [d] }
  | _ => none }
def fnValidIDMatchesAlphabetRow : OpenClaim := { program := "qxb6602954a", sum := "4db1fb541ee2aaacb951aaca18a4cee8eb196868bf4c903f4791888a2ca8b1bd", func := "example.com/flagdeck/flagdeck/zzlaws_internal_cases_b1.FnValidIDMatchesAlphabet", spec := "fnValidIDMatchesAlphabet", apart := false }
def FnValidIDMatchesAlphabetSaid : Prop := fnValidIDMatchesAlphabetRow.holds Try.pinned (OpenSpec.ofChange fnValidIDMatchesAlphabetSpec)

/-- ITS FALSE NEIGHBOUR: 'it returns false'. Refute it at one input. -/
def fnValidIDMatchesAlphabetWrong : ChangeSpec := { name := "fnValidIDMatchesAlphabet", fn := fun _ => fun
  | [d] => { results := [.lit (.bool false)], args := [d] }
  | _ => none }
def FnValidIDMatchesAlphabetWrongFalsely : Prop := fnValidIDMatchesAlphabetRow.holds Try.pinned (OpenSpec.ofChange fnValidIDMatchesAlphabetWrong)

/-- 'zzlaws_internal_cases_b1.FnValidIDConcat': WHATEVER THE INPUT: true; the input reads as it did. -/
def fnValidIDConcatSpec : ChangeSpec := { name := "fnValidIDConcat", fn := fun _ => fun
  | [d1, d2] => { results := [.lit (.bool true)], args := [d1, d2] }
  | _ => none }
def fnValidIDConcatRow : OpenClaim := { program := "qxb6602954a", sum := "4db1fb541ee2aaacb951aaca18a4cee8eb196868bf4c903f4791888a2ca8b1bd", func := "example.com/flagdeck/flagdeck/zzlaws_internal_cases_b1.FnValidIDConcat", spec := "fnValidIDConcat", apart := false }
def FnValidIDConcatSaid : Prop := fnValidIDConcatRow.holds Try.pinned (OpenSpec.ofChange fnValidIDConcatSpec)

/-- ITS FALSE NEIGHBOUR: 'it returns false'. Refute it at one input. -/
def fnValidIDConcatWrong : ChangeSpec := { name := "fnValidIDConcat", fn := fun _ => fun
  | [d1, d2] => { results := [.lit (.bool false)], args := [d1, d2] }
  | _ => none }
def FnValidIDConcatWrongFalsely : Prop := fnValidIDConcatRow.holds Try.pinned (OpenSpec.ofChange fnValidIDConcatWrong)

/-- 'zzlaws_internal_cases_b1.FnTeamsHasMatchesScan': WHATEVER THE INPUT: true; the input reads as it did. -/
def fnTeamsHasMatchesScanSpec : ChangeSpec := { name := "fnTeamsHasMatchesScan", fn := fun _ => fun
  | [d1, d2, d3] => { results := [.lit (.bool true)], args := [d1, d2, d3] }
  | _ => none }
def fnTeamsHasMatchesScanRow : OpenClaim := { program := "qxb6602954a", sum := "4db1fb541ee2aaacb951aaca18a4cee8eb196868bf4c903f4791888a2ca8b1bd", func := "example.com/flagdeck/flagdeck/zzlaws_internal_cases_b1.FnTeamsHasMatchesScan", spec := "fnTeamsHasMatchesScan", apart := false }
def FnTeamsHasMatchesScanSaid : Prop := fnTeamsHasMatchesScanRow.holds Try.pinned (OpenSpec.ofChange fnTeamsHasMatchesScanSpec)

/-- ITS FALSE NEIGHBOUR: 'it returns false'. Refute it at one input. -/
def fnTeamsHasMatchesScanWrong : ChangeSpec := { name := "fnTeamsHasMatchesScan", fn := fun _ => fun
  | [d1, d2, d3] => { results := [.lit (.bool false)], args := [d1, d2, d3] }
  | _ => none }
def FnTeamsHasMatchesScanWrongFalsely : Prop := fnTeamsHasMatchesScanRow.holds Try.pinned (OpenSpec.ofChange fnTeamsHasMatchesScanWrong)

end Rows
end Go.Proofs.Qxb6602954a
