/-
  DERIVED. GIVEN WITH THE SEED: THE CARDS: each row of Qxb6601675aDoorRows.lean that lists a variable, with what it lists TIED to the program's text (the seventh form; the later family's looks); each row that meets fmt, with fmt's text TOLD by the authors' own Lean function (tested against real Go, not proved from fmt's source: count such statements apart). THE CARD IS WHAT COUNTS. Prove the row's statement (the work); the ties are given (Qxb6601675aDoorTie.lean); close each card by the builder's one call (the guide's Derived/Test/ToyasCard.lean, 'card_holds'). Laid BY PROGRAM, IN A SANDBOX (cutbox-door.mjs). By AI agents, Wed Nov 11 2026. No macro, syntax, notation, axiom, sorry.
-/
import Derived.Test.Qxb6601675aDoorRows
import GoSem.ClaimSeven
namespace Go.Proofs.Qxb6601675aDoor
namespace Rows

/-- THE TIED CARD OF 'zzlaws_internal_epp_b1.FnIsLanguageAgreesWithScanner'. -/
def fnIsLanguageAgreesWithScannerCard : Claim7 := { stood := { row := fnIsLanguageAgreesWithScannerRow, standIns := [], harness := (true, "bcf3ef3b39a6abd6a1225bd950d0a7b758e9e92793927dea635d8f81bacd010e"), looks := false }, kinds := [], alts := [], laidByText := true, laidKinds := [.data, .pinned], laidTests := true, laidLooks := .later }
def FnIsLanguageAgreesWithScannerCardSaid : Prop := Claim7.holds Tryd.pinned (.plain (OpenSpec.ofChange fnIsLanguageAgreesWithScannerSpec)) fnIsLanguageAgreesWithScannerCard

/-- THE TIED CARD OF 'zzlaws_internal_epp_b1.FnIsLanguageSplitsAtHyphen'. -/
def fnIsLanguageSplitsAtHyphenCard : Claim7 := { stood := { row := fnIsLanguageSplitsAtHyphenRow, standIns := [], harness := (true, "bcf3ef3b39a6abd6a1225bd950d0a7b758e9e92793927dea635d8f81bacd010e"), looks := false }, kinds := [], alts := [], laidByText := true, laidKinds := [.data, .pinned], laidTests := true, laidLooks := .later }
def FnIsLanguageSplitsAtHyphenCardSaid : Prop := Claim7.holds Tryd.pinned (.plain (OpenSpec.ofChange fnIsLanguageSplitsAtHyphenSpec)) fnIsLanguageSplitsAtHyphenCard
end Rows
end Go.Proofs.Qxb6601675aDoor
