/-
  DERIVED. GIVEN WITH THE SEED: THE CARDS: each row of Qxb6602005aDoorRows.lean that lists a variable, with what it lists TIED to the program's text (the seventh form; the later family's looks); each row that meets fmt, with fmt's text TOLD by the authors' own Lean function (tested against real Go, not proved from fmt's source: count such statements apart). THE CARD IS WHAT COUNTS. Prove the row's statement (the work); the ties are given (Qxb6602005aDoorTie.lean); close each card by the builder's one call (the guide's Derived/Test/ToyasCard.lean, 'card_holds'). Laid BY PROGRAM, IN A SANDBOX (cutbox-door.mjs). By AI agents, Wed Nov 11 2026. No macro, syntax, notation, axiom, sorry.
-/
import Derived.Test.Qxb6602005aDoorRows
import GoSem.ClaimSeven
namespace Go.Proofs.Qxb6602005aDoor
namespace Rows

/-- THE TIED CARD OF 'zzlaws_internal_compare_b1.FnParseNumberMatchesModel'. -/
def fnParseNumberMatchesModelCard : Claim7 := { stood := { row := fnParseNumberMatchesModelRow, standIns := [], harness := (true, "a9b6b87d0f9a32ce081b1ca70b85adae1dab6b874a457a88ed2943ab62a8b6b6"), looks := false }, kinds := [], alts := [], laidByText := true, laidKinds := [.data, .pinned], laidTests := true, laidLooks := .later }
def FnParseNumberMatchesModelCardSaid : Prop := Claim7.holds Tryd.pinned (.plain (OpenSpec.ofChange fnParseNumberMatchesModelSpec)) fnParseNumberMatchesModelCard

/-- THE TIED CARD OF 'zzlaws_internal_compare_b1.FnParseNumberPointShift'. -/
def fnParseNumberPointShiftCard : Claim7 := { stood := { row := fnParseNumberPointShiftRow, standIns := [], harness := (true, "a9b6b87d0f9a32ce081b1ca70b85adae1dab6b874a457a88ed2943ab62a8b6b6"), looks := false }, kinds := [], alts := [], laidByText := true, laidKinds := [.data, .pinned], laidTests := true, laidLooks := .later }
def FnParseNumberPointShiftCardSaid : Prop := Claim7.holds Tryd.pinned (.plain (OpenSpec.ofChange fnParseNumberPointShiftSpec)) fnParseNumberPointShiftCard

/-- THE TIED CARD OF 'zzlaws_internal_compare_b1.FnNumberMatchesModel'. -/
def fnNumberMatchesModelCard : Claim7 := { stood := { row := fnNumberMatchesModelRow, standIns := [], harness := (true, "a9b6b87d0f9a32ce081b1ca70b85adae1dab6b874a457a88ed2943ab62a8b6b6"), looks := false }, kinds := [], alts := [], laidByText := true, laidKinds := [.data, .data, .data, .data, .pinned], laidTests := true, laidLooks := .later }
def FnNumberMatchesModelCardSaid : Prop := Claim7.holds Tryd.pinned (.plain (OpenSpec.ofChange fnNumberMatchesModelSpec)) fnNumberMatchesModelCard

/-- THE TIED CARD OF 'zzlaws_internal_compare_b1.FnNumberCanonicalIsFixed'. -/
def fnNumberCanonicalIsFixedCard : Claim7 := { stood := { row := fnNumberCanonicalIsFixedRow, standIns := [], harness := (true, "a9b6b87d0f9a32ce081b1ca70b85adae1dab6b874a457a88ed2943ab62a8b6b6"), looks := false }, kinds := [], alts := [], laidByText := true, laidKinds := [.data, .data, .data, .data, .pinned], laidTests := true, laidLooks := .later }
def FnNumberCanonicalIsFixedCardSaid : Prop := Claim7.holds Tryd.pinned (.plain (OpenSpec.ofChange fnNumberCanonicalIsFixedSpec)) fnNumberCanonicalIsFixedCard

/-- THE TIED CARD OF 'zzlaws_internal_compare_b1.FnNumberSameValueSameText'. -/
def fnNumberSameValueSameTextCard : Claim7 := { stood := { row := fnNumberSameValueSameTextRow, standIns := [], harness := (true, "a9b6b87d0f9a32ce081b1ca70b85adae1dab6b874a457a88ed2943ab62a8b6b6"), looks := false }, kinds := [], alts := [], laidByText := true, laidKinds := [.data, .data, .data, .data, .pinned], laidTests := true, laidLooks := .later }
def FnNumberSameValueSameTextCardSaid : Prop := Claim7.holds Tryd.pinned (.plain (OpenSpec.ofChange fnNumberSameValueSameTextSpec)) fnNumberSameValueSameTextCard
end Rows
end Go.Proofs.Qxb6602005aDoor
