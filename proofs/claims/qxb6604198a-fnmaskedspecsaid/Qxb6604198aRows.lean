/-
  No cell of these rows narrows 'for every input' (looked for: loops, veiled, ifaces, maps, wideKeys, modest, calm, conditions, laid).
  DERIVED. THE GIVEN ROWS OF THIS SEAT. 1 by the template 'for every input the law returns true; each argument reads behind the call as it read before'; 0 by the template 'total and deterministic' (their statements: Qxb6604198aTotals.lean).
  GIVEN WITH THE SEED: the statements are not yours to turn. If you find one false, say at which input.
  Laid BY PROGRAM, IN A SANDBOX (cutbox-rows.mjs): the forced cells as the released guide's own fill.sh prints them over the translation 9c886551ec5659ae… (all of the seat's roots in one cut). By AI agents, Wed Nov 11 2026. No macro, syntax, notation, axiom, sorry.
-/
import Derived.Test.Qxb6604198aChecked
import GoSem.Claim
import GoSem.ClaimJoined
import GoSem.ClaimMapViews
import Derived.JoinedTies
import Derived.KernelRfl
namespace Go.Proofs.Qxb6604198a
/- THE CELL 'sum', in the pinned program and in every row, IS THE sha256 OF THE DUMP (.gsa) THAT Qxb6604198aProg.lean LOADS. Nothing in Lean hashes anything: it is a label: what it is worth is what the hold of that sum in a sandbox is worth. -/
noncomputable def Try.pinned : Pinned := { name := "qxb6604198a", sum := "9c886551ec5659ae9130d07be7987b9e57149c691ec8aee7c48a502e12c15542", checked := Try.checked }
namespace Rows
def none {H : Type} : Left H := { results := [], args := [] }

/-- 'zzlaws_pkg_wire_b1.FnMaskedSpec': WHATEVER THE INPUT: true; the input reads as it did. -/
def fnMaskedSpecSpec : ChangeSpec := { name := "fnMaskedSpec", fn := fun _ => fun
  | [d1, d2, d3] => { results := [.lit (.bool true)], args := [d1, d2, d3] }
  | _ => none }
def fnMaskedSpecRow : OpenClaim := { program := "qxb6604198a", sum := "9c886551ec5659ae9130d07be7987b9e57149c691ec8aee7c48a502e12c15542", func := "example.com/pelorus-delivery/pelorus-delivery/zzlaws_pkg_wire_b1.FnMaskedSpec", spec := "fnMaskedSpec", apart := false }
def FnMaskedSpecSaid : Prop := fnMaskedSpecRow.holds Try.pinned (OpenSpec.ofChange fnMaskedSpecSpec)

/-- ITS FALSE NEIGHBOUR: 'it returns false'. Refute it at one input. -/
def fnMaskedSpecWrong : ChangeSpec := { name := "fnMaskedSpec", fn := fun _ => fun
  | [d1, d2, d3] => { results := [.lit (.bool false)], args := [d1, d2, d3] }
  | _ => none }
def FnMaskedSpecWrongFalsely : Prop := fnMaskedSpecRow.holds Try.pinned (OpenSpec.ofChange fnMaskedSpecWrong)

end Rows
end Go.Proofs.Qxb6604198a
