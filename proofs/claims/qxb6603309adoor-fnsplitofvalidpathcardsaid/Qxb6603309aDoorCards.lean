/-
  DERIVED. GIVEN WITH THE SEED: THE CARDS: each row of Qxb6603309aDoorRows.lean that lists a variable, with what it lists TIED to the program's text (the seventh form; the later family's looks); each row that meets fmt, with fmt's text TOLD by the authors' own Lean function (tested against real Go, not proved from fmt's source: count such statements apart). THE CARD IS WHAT COUNTS. Prove the row's statement (the work); the ties are given (Qxb6603309aDoorTie.lean); close each card by the builder's one call (the guide's Derived/Test/ToyasCard.lean, 'card_holds'). Laid BY PROGRAM, IN A SANDBOX (cutbox-door.mjs). By AI agents, Wed Nov 11 2026. No macro, syntax, notation, axiom, sorry.
-/
import Derived.Test.Qxb6603309aDoorRows
import GoSem.ClaimSeven
namespace Go.Proofs.Qxb6603309aDoor
namespace Rows

/-- THE TIED CARD OF 'zzlaws_internal_zkserver_b1.FnValidPathMatchesModel'. -/
def fnValidPathMatchesModelCard : Claim7 := { stood := { row := fnValidPathMatchesModelRow, standIns := [], harness := (true, "49fb297ffe65ff920d26ad384cf5debf3089eb29710a045ff877a12381ff5e18"), looks := false }, kinds := [], alts := [], laidByText := true, laidKinds := [.data, .pinned], laidTests := true, laidLooks := .later }
def FnValidPathMatchesModelCardSaid : Prop := Claim7.holds Tryd.pinned (.plain (OpenSpec.ofChange fnValidPathMatchesModelSpec)) fnValidPathMatchesModelCard

/-- THE TIED CARD OF 'zzlaws_internal_zkserver_b1.FnValidPathConcat'. -/
def fnValidPathConcatCard : Claim7 := { stood := { row := fnValidPathConcatRow, standIns := [], harness := (true, "49fb297ffe65ff920d26ad384cf5debf3089eb29710a045ff877a12381ff5e18"), looks := false }, kinds := [], alts := [], laidByText := true, laidKinds := [.data, .pinned], laidTests := true, laidLooks := .later }
def FnValidPathConcatCardSaid : Prop := Claim7.holds Tryd.pinned (.plain (OpenSpec.ofChange fnValidPathConcatSpec)) fnValidPathConcatCard

/-- THE TIED CARD OF 'zzlaws_internal_zkserver_b1.FnSplitOfValidPath'. -/
def fnSplitOfValidPathCard : Claim7 := { stood := { row := fnSplitOfValidPathRow, standIns := [], harness := (true, "49fb297ffe65ff920d26ad384cf5debf3089eb29710a045ff877a12381ff5e18"), looks := false }, kinds := [], alts := [], laidByText := true, laidKinds := [.data, .pinned], laidTests := true, laidLooks := .later }
def FnSplitOfValidPathCardSaid : Prop := Claim7.holds Tryd.pinned (.plain (OpenSpec.ofChange fnSplitOfValidPathSpec)) fnSplitOfValidPathCard
end Rows
end Go.Proofs.Qxb6603309aDoor
