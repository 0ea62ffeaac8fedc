/-
  No cell of these rows narrows 'for every input' (looked for: loops, veiled, ifaces, maps, wideKeys, modest, calm, conditions, laid).
  DERIVED. THE GIVEN ROWS OF THIS SEAT. 3 by the template 'for every input the law returns true; each argument reads behind the call as it read before'; 0 by the template 'total and deterministic' (their statements: Qxb6603456aTotals.lean).
  GIVEN WITH THE SEED: the statements are not yours to turn. If you find one false, say at which input.
  Laid BY PROGRAM, IN A SANDBOX (cutbox-rows.mjs): the forced cells as the released guide's own fill.sh prints them over the translation 7cd6e3084be69602… (all of the seat's roots in one cut). By AI agents, Wed Nov 11 2026. No macro, syntax, notation, axiom, sorry.
-/
import Derived.Test.Qxb6603456aChecked
import GoSem.Claim
import GoSem.ClaimJoined
import GoSem.ClaimMapViews
import Derived.JoinedTies
import Derived.KernelRfl
namespace Go.Proofs.Qxb6603456a
/- THE CELL 'sum', in the pinned program and in every row, IS THE sha256 OF THE DUMP (.gsa) THAT Qxb6603456aProg.lean LOADS. Nothing in Lean hashes anything: it is a label: what it is worth is what the hold of that sum in a sandbox is worth. -/
noncomputable def Try.pinned : Pinned := { name := "qxb6603456a", sum := "7cd6e3084be69602b6eef24367eacb96f4c62569895cf3c183531a701b60d03d", checked := Try.checked }
namespace Rows
def none {H : Type} : Left H := { results := [], args := [] }

/-- 'zzlaws_internal_landing_b1.FnHasSuffixOverJoinedLists': WHATEVER THE INPUT: true; the input reads as it did. -/
def fnHasSuffixOverJoinedListsSpec : ChangeSpec := { name := "fnHasSuffixOverJoinedLists", fn := fun _ => fun
  | [d1, d2, d3, d4, d5] => { results := [.lit (.bool true)], args := [d1, d2, d3, d4, d5] }
  | _ => none }
def fnHasSuffixOverJoinedListsRow : OpenClaim := { program := "qxb6603456a", sum := "7cd6e3084be69602b6eef24367eacb96f4c62569895cf3c183531a701b60d03d", func := "example.com/cellarway/cellarway/zzlaws_internal_landing_b1.FnHasSuffixOverJoinedLists", spec := "fnHasSuffixOverJoinedLists", apart := false }
def FnHasSuffixOverJoinedListsSaid : Prop := fnHasSuffixOverJoinedListsRow.holds Try.pinned (OpenSpec.ofChange fnHasSuffixOverJoinedListsSpec)

/-- ITS FALSE NEIGHBOUR: 'it returns false'. Refute it at one input. -/
def fnHasSuffixOverJoinedListsWrong : ChangeSpec := { name := "fnHasSuffixOverJoinedLists", fn := fun _ => fun
  | [d1, d2, d3, d4, d5] => { results := [.lit (.bool false)], args := [d1, d2, d3, d4, d5] }
  | _ => none }
def FnHasSuffixOverJoinedListsWrongFalsely : Prop := fnHasSuffixOverJoinedListsRow.holds Try.pinned (OpenSpec.ofChange fnHasSuffixOverJoinedListsWrong)

/-- 'zzlaws_internal_landing_b1.FnClientLineCaseTable': WHATEVER THE INPUT: true; the input reads as it did. -/
def fnClientLineCaseTableSpec : ChangeSpec := { name := "fnClientLineCaseTable", fn := fun _ => fun
  | [d1, d2, d3, d4] => { results := [.lit (.bool true)], args := [d1, d2, d3, d4] }
  | _ => none }
def fnClientLineCaseTableRow : OpenClaim := { program := "qxb6603456a", sum := "7cd6e3084be69602b6eef24367eacb96f4c62569895cf3c183531a701b60d03d", func := "example.com/cellarway/cellarway/zzlaws_internal_landing_b1.FnClientLineCaseTable", spec := "fnClientLineCaseTable", apart := false }
def FnClientLineCaseTableSaid : Prop := fnClientLineCaseTableRow.holds Try.pinned (OpenSpec.ofChange fnClientLineCaseTableSpec)

/-- ITS FALSE NEIGHBOUR: 'it returns false'. Refute it at one input. -/
def fnClientLineCaseTableWrong : ChangeSpec := { name := "fnClientLineCaseTable", fn := fun _ => fun
  | [d1, d2, d3, d4] => { results := [.lit (.bool false)], args := [d1, d2, d3, d4] }
  | _ => none }
def FnClientLineCaseTableWrongFalsely : Prop := fnClientLineCaseTableRow.holds Try.pinned (OpenSpec.ofChange fnClientLineCaseTableWrong)

/-- 'zzlaws_internal_landing_b1.FnClientLineNamesNeverCollide': WHATEVER THE INPUT: true; the input reads as it did. -/
def fnClientLineNamesNeverCollideSpec : ChangeSpec := { name := "fnClientLineNamesNeverCollide", fn := fun _ => fun
  | [d1, d2, d3, d4, d5, d6, d7] => { results := [.lit (.bool true)], args := [d1, d2, d3, d4, d5, d6, d7] }
  | _ => none }
def fnClientLineNamesNeverCollideRow : OpenClaim := { program := "qxb6603456a", sum := "7cd6e3084be69602b6eef24367eacb96f4c62569895cf3c183531a701b60d03d", func := "example.com/cellarway/cellarway/zzlaws_internal_landing_b1.FnClientLineNamesNeverCollide", spec := "fnClientLineNamesNeverCollide", apart := false }
def FnClientLineNamesNeverCollideSaid : Prop := fnClientLineNamesNeverCollideRow.holds Try.pinned (OpenSpec.ofChange fnClientLineNamesNeverCollideSpec)

/-- ITS FALSE NEIGHBOUR: 'it returns false'. Refute it at one input. -/
def fnClientLineNamesNeverCollideWrong : ChangeSpec := { name := "fnClientLineNamesNeverCollide", fn := fun _ => fun
  | [d1, d2, d3, d4, d5, d6, d7] => { results := [.lit (.bool false)], args := [d1, d2, d3, d4, d5, d6, d7] }
  | _ => none }
def FnClientLineNamesNeverCollideWrongFalsely : Prop := fnClientLineNamesNeverCollideRow.holds Try.pinned (OpenSpec.ofChange fnClientLineNamesNeverCollideWrong)

end Rows
end Go.Proofs.Qxb6603456a
