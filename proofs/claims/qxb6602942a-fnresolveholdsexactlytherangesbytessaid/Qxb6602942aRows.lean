/-
  No cell of these rows narrows 'for every input' (looked for: loops, veiled, ifaces, maps, wideKeys, modest, calm, conditions, laid).
  DERIVED. THE GIVEN ROWS OF THIS SEAT. 2 by the template 'for every input the law returns true; each argument reads behind the call as it read before'; 0 by the template 'total and deterministic' (their statements: Qxb6602942aTotals.lean).
  GIVEN WITH THE SEED: the statements are not yours to turn. If you find one false, say at which input.
  Laid BY PROGRAM, IN A SANDBOX (cutbox-rows.mjs): the forced cells as the released guide's own fill.sh prints them over the translation b4cd502ed3b13190… (all of the seat's roots in one cut). By AI agents, Wed Nov 11 2026. No macro, syntax, notation, axiom, sorry.
-/
import Derived.Test.Qxb6602942aChecked
import GoSem.Claim
import GoSem.ClaimJoined
import GoSem.ClaimMapViews
import Derived.JoinedTies
import Derived.KernelRfl
namespace Go.Proofs.Qxb6602942a
/- THE CELL 'sum', in the pinned program and in every row, IS THE sha256 OF THE DUMP (.gsa) THAT Qxb6602942aProg.lean LOADS. Nothing in Lean hashes anything: it is a label: what it is worth is what the hold of that sum in a sandbox is worth. -/
noncomputable def Try.pinned : Pinned := { name := "qxb6602942a", sum := "b4cd502ed3b131907c9c22ef95e802ffe8cace9c08220486905ad5531f8a26e5", checked := Try.checked }
namespace Rows
def none {H : Type} : Left H := { results := [], args := [] }

/-- 'zzlaws_trustless_b1.FnResolveHoldsExactlyTheRangesBytes': WHATEVER THE INPUT: true; the input reads as it did. -/
def fnResolveHoldsExactlyTheRangesBytesSpec : ChangeSpec := { name := "fnResolveHoldsExactlyTheRangesBytes", fn := fun _ => fun
  | [d1, d2, d3, d4, d5] => { results := [.lit (.bool true)], args := [d1, d2, d3, d4, d5] }
  | _ => none }
def fnResolveHoldsExactlyTheRangesBytesRow : OpenClaim := { program := "qxb6602942a", sum := "b4cd502ed3b131907c9c22ef95e802ffe8cace9c08220486905ad5531f8a26e5", func := "example.com/veracar/veracar/zzlaws_trustless_b1.FnResolveHoldsExactlyTheRangesBytes", spec := "fnResolveHoldsExactlyTheRangesBytes", apart := false }
def FnResolveHoldsExactlyTheRangesBytesSaid : Prop := fnResolveHoldsExactlyTheRangesBytesRow.holds Try.pinned (OpenSpec.ofChange fnResolveHoldsExactlyTheRangesBytesSpec)

/-- ITS FALSE NEIGHBOUR: 'it returns false'. Refute it at one input. -/
def fnResolveHoldsExactlyTheRangesBytesWrong : ChangeSpec := { name := "fnResolveHoldsExactlyTheRangesBytes", fn := fun _ => fun
  | [d1, d2, d3, d4, d5] => { results := [.lit (.bool false)], args := [d1, d2, d3, d4, d5] }
  | _ => none }
def FnResolveHoldsExactlyTheRangesBytesWrongFalsely : Prop := fnResolveHoldsExactlyTheRangesBytesRow.holds Try.pinned (OpenSpec.ofChange fnResolveHoldsExactlyTheRangesBytesWrong)

/-- 'zzlaws_trustless_b1.FnResolveStarIsMinusOne': WHATEVER THE INPUT: true; the input reads as it did. -/
def fnResolveStarIsMinusOneSpec : ChangeSpec := { name := "fnResolveStarIsMinusOne", fn := fun _ => fun
  | [d1, d2, d3] => { results := [.lit (.bool true)], args := [d1, d2, d3] }
  | _ => none }
def fnResolveStarIsMinusOneRow : OpenClaim := { program := "qxb6602942a", sum := "b4cd502ed3b131907c9c22ef95e802ffe8cace9c08220486905ad5531f8a26e5", func := "example.com/veracar/veracar/zzlaws_trustless_b1.FnResolveStarIsMinusOne", spec := "fnResolveStarIsMinusOne", apart := false }
def FnResolveStarIsMinusOneSaid : Prop := fnResolveStarIsMinusOneRow.holds Try.pinned (OpenSpec.ofChange fnResolveStarIsMinusOneSpec)

/-- ITS FALSE NEIGHBOUR: 'it returns false'. Refute it at one input. -/
def fnResolveStarIsMinusOneWrong : ChangeSpec := { name := "fnResolveStarIsMinusOne", fn := fun _ => fun
  | [d1, d2, d3] => { results := [.lit (.bool false)], args := [d1, d2, d3] }
  | _ => none }
def FnResolveStarIsMinusOneWrongFalsely : Prop := fnResolveStarIsMinusOneRow.holds Try.pinned (OpenSpec.ofChange fnResolveStarIsMinusOneWrong)

end Rows
end Go.Proofs.Qxb6602942a
