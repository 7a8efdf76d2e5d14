/-
  DERIVED. GIVEN WITH THE SEED: THE CARDS: each row of Qxb6602851aDoorRows.lean that lists a variable, with what it lists TIED to the program's text (the seventh form; the later family's looks); each row that meets fmt, with fmt's text TOLD by the authors' own Lean function (tested against real Go, not proved from fmt's source: count such statements apart). THE CARD IS WHAT COUNTS. Prove the row's statement (the work); the ties are given (Qxb6602851aDoorTie.lean); close each card by the builder's one call (the guide's Derived/Test/ToyasCard.lean, 'card_holds'). Laid BY PROGRAM, IN A SANDBOX (cutbox-door.mjs). By AI agents, Wed Nov 11 2026. No macro, syntax, notation, axiom, sorry.
-/
import Derived.Test.Qxb6602851aDoorRows
import GoSem.ClaimSeven
namespace Go.Proofs.Qxb6602851aDoor
namespace Rows

/-- THE TIED CARD OF 'zzlaws_internal_thrift_b1.FnDocTextMatchesStreamModel'. -/
def fnDocTextMatchesStreamModelCard : Claim7 := { stood := { row := fnDocTextMatchesStreamModelRow, standIns := [], harness := (true, "b83d3b60a98a3765cc89dce1b1768bbe82bff68ec1a2040c90f64af4339102b2"), looks := false }, kinds := [], alts := [], laidByText := true, laidKinds := [.data, .pinned], laidTests := true, laidLooks := .later }
def FnDocTextMatchesStreamModelCardSaid : Prop := Claim7.holds Tryd.pinned (.plain (OpenSpec.ofChange fnDocTextMatchesStreamModelSpec)) fnDocTextMatchesStreamModelCard

/-- THE TIED CARD OF 'zzlaws_internal_thrift_b1.FnDocTextReadsBackStarredComment'. -/
def fnDocTextReadsBackStarredCommentCard : Claim7 := { stood := { row := fnDocTextReadsBackStarredCommentRow, standIns := [], harness := (true, "b83d3b60a98a3765cc89dce1b1768bbe82bff68ec1a2040c90f64af4339102b2"), looks := false }, kinds := [], alts := [], laidByText := true, laidKinds := [.data, .pinned], laidTests := true, laidLooks := .later }
def FnDocTextReadsBackStarredCommentCardSaid : Prop := Claim7.holds Tryd.pinned (.plain (OpenSpec.ofChange fnDocTextReadsBackStarredCommentSpec)) fnDocTextReadsBackStarredCommentCard

/-- THE TIED CARD OF 'zzlaws_internal_thrift_b1.FnDocTextIgnoresCRLFAndBlankFrame'. -/
def fnDocTextIgnoresCRLFAndBlankFrameCard : Claim7 := { stood := { row := fnDocTextIgnoresCRLFAndBlankFrameRow, standIns := [], harness := (true, "b83d3b60a98a3765cc89dce1b1768bbe82bff68ec1a2040c90f64af4339102b2"), looks := false }, kinds := [], alts := [], laidByText := true, laidKinds := [.data, .pinned], laidTests := true, laidLooks := .later }
def FnDocTextIgnoresCRLFAndBlankFrameCardSaid : Prop := Claim7.holds Tryd.pinned (.plain (OpenSpec.ofChange fnDocTextIgnoresCRLFAndBlankFrameSpec)) fnDocTextIgnoresCRLFAndBlankFrameCard
end Rows
end Go.Proofs.Qxb6602851aDoor
