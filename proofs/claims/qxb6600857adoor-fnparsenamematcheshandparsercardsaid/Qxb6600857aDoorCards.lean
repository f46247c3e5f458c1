/-
  DERIVED. GIVEN WITH THE SEED: THE CARDS: each row of Qxb6600857aDoorRows.lean that lists a variable, with what it lists TIED to the program's text (the seventh form; the later family's looks); each row that meets fmt, with fmt's text TOLD by the authors' own Lean function (tested against real Go, not proved from fmt's source: count such statements apart). THE CARD IS WHAT COUNTS. Prove the row's statement (the work); the ties are given (Qxb6600857aDoorTie.lean); close each card by the builder's one call (the guide's Derived/Test/ToyasCard.lean, 'card_holds'). Laid BY PROGRAM, IN A SANDBOX (cutbox-door.mjs). By AI agents, Wed Nov 11 2026. No macro, syntax, notation, axiom, sorry.
-/
import Derived.Test.Qxb6600857aDoorRows
import GoSem.ClaimSeven
namespace Go.Proofs.Qxb6600857aDoor
namespace Rows

/-- THE TIED CARD OF 'zzlaws_store_b1.FnParseNameOrderAgreesWithNameOrder'. -/
def fnParseNameOrderAgreesWithNameOrderCard : Claim7 := { stood := { row := fnParseNameOrderAgreesWithNameOrderRow, standIns := [], harness := (true, "8b7239e566a5228954ba92066fde0b86c4514214b988433d8ac29748c5410901"), looks := true }, kinds := [], alts := [], laidByText := true, laidKinds := [.data, .data, .data, .sentinel, .sentinel], laidTests := true, laidLooks := .later }
def FnParseNameOrderAgreesWithNameOrderCardSaid : Prop := Claim7.holds Tryd.pinned (.plain (OpenSpec.ofChange fnParseNameOrderAgreesWithNameOrderSpec)) fnParseNameOrderAgreesWithNameOrderCard

/-- THE TIED CARD OF 'zzlaws_store_b1.FnParseNameMatchesHandParser'. -/
def fnParseNameMatchesHandParserCard : Claim7 := { stood := { row := fnParseNameMatchesHandParserRow, standIns := [], harness := (true, "8b7239e566a5228954ba92066fde0b86c4514214b988433d8ac29748c5410901"), looks := true }, kinds := [], alts := [], laidByText := true, laidKinds := [.data, .data, .data, .sentinel, .sentinel], laidTests := true, laidLooks := .later }
def FnParseNameMatchesHandParserCardSaid : Prop := Claim7.holds Tryd.pinned (.plain (OpenSpec.ofChange fnParseNameMatchesHandParserSpec)) fnParseNameMatchesHandParserCard

/-- THE TIED CARD OF 'zzlaws_store_b1.FnParseNameReadsWhatHex16Writes'. -/
def fnParseNameReadsWhatHex16WritesCard : Claim7 := { stood := { row := fnParseNameReadsWhatHex16WritesRow, standIns := [], harness := (true, "8b7239e566a5228954ba92066fde0b86c4514214b988433d8ac29748c5410901"), looks := true }, kinds := [], alts := [], laidByText := true, laidKinds := [.data, .data, .data, .sentinel, .sentinel], laidTests := true, laidLooks := .later }
def FnParseNameReadsWhatHex16WritesCardSaid : Prop := Claim7.holds Tryd.pinned (.plain (OpenSpec.ofChange fnParseNameReadsWhatHex16WritesSpec)) fnParseNameReadsWhatHex16WritesCard
end Rows
end Go.Proofs.Qxb6600857aDoor
