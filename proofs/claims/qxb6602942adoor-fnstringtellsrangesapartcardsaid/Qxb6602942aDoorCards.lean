/-
  DERIVED. GIVEN WITH THE SEED: THE CARDS: each row of Qxb6602942aDoorRows.lean that lists a variable, with what it lists TIED to the program's text (the seventh form; the later family's looks); each row that meets fmt, with fmt's text TOLD by the authors' own Lean function (tested against real Go, not proved from fmt's source: count such statements apart). THE CARD IS WHAT COUNTS. Prove the row's statement (the work); the ties are given (Qxb6602942aDoorTie.lean); close each card by the builder's one call (the guide's Derived/Test/ToyasCard.lean, 'card_holds'). Laid BY PROGRAM, IN A SANDBOX (cutbox-door.mjs). By AI agents, Wed Nov 11 2026. No macro, syntax, notation, axiom, sorry.
-/
import Derived.Test.Qxb6602942aDoorRows
import GoSem.ClaimSeven
namespace Go.Proofs.Qxb6602942aDoor
namespace Rows

/-- THE TIED CARD OF 'zzlaws_trustless_b1.FnStringIsCanonicalEntityBytes'. -/
def fnStringIsCanonicalEntityBytesCard : Claim7 := { stood := { row := fnStringIsCanonicalEntityBytesRow, standIns := [], harness := (true, "36d34eff43fe231b5d1a95f06b84bfd854a675582db8ffe468f7ae177c8ab980"), looks := false }, kinds := [], alts := [], laidByText := true, laidKinds := [.data, .data, .data], laidTests := true, laidLooks := .later }
def FnStringIsCanonicalEntityBytesCardSaid : Prop := Claim7.holds Tryd.pinned (.plain (OpenSpec.ofChange fnStringIsCanonicalEntityBytesSpec)) fnStringIsCanonicalEntityBytesCard

/-- THE TIED CARD OF 'zzlaws_trustless_b1.FnStringTellsRangesApart'. -/
def fnStringTellsRangesApartCard : Claim7 := { stood := { row := fnStringTellsRangesApartRow, standIns := [], harness := (true, "36d34eff43fe231b5d1a95f06b84bfd854a675582db8ffe468f7ae177c8ab980"), looks := false }, kinds := [], alts := [], laidByText := true, laidKinds := [.data, .data, .data], laidTests := true, laidLooks := .later }
def FnStringTellsRangesApartCardSaid : Prop := Claim7.holds Tryd.pinned (.plain (OpenSpec.ofChange fnStringTellsRangesApartSpec)) fnStringTellsRangesApartCard
end Rows
end Go.Proofs.Qxb6602942aDoor
