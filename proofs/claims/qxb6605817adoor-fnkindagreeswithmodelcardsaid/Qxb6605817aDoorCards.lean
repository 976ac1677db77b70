/-
  DERIVED. GIVEN WITH THE SEED: THE CARDS: each row of Qxb6605817aDoorRows.lean that lists a variable, with what it lists TIED to the program's text (the seventh form; the later family's looks); each row that meets fmt, with fmt's text TOLD by the authors' own Lean function (tested against real Go, not proved from fmt's source: count such statements apart). THE CARD IS WHAT COUNTS. Prove the row's statement (the work); the ties are given (Qxb6605817aDoorTie.lean); close each card by the builder's one call (the guide's Derived/Test/ToyasCard.lean, 'card_holds'). Laid BY PROGRAM, IN A SANDBOX (cutbox-door.mjs). By AI agents, Wed Nov 11 2026. No macro, syntax, notation, axiom, sorry.
-/
import Derived.Test.Qxb6605817aDoorRows
import GoSem.ClaimSeven
namespace Go.Proofs.Qxb6605817aDoor
namespace Rows

/-- THE TIED CARD OF 'zzlaws_repo_b1.FnYoungestCountsRevisions'. -/
def fnYoungestCountsRevisionsCard : Claim7 := { stood := { row := fnYoungestCountsRevisionsRow, standIns := [], harness := (true, "5778bccadbb02c291d3c568c51c454bd9aaff0603a538bad2a75ae9f0cef5ee8"), looks := false }, kinds := [], alts := [], laidByText := true, laidKinds := [.data, .pinned], laidTests := true, laidLooks := .later }
def FnYoungestCountsRevisionsCardSaid : Prop := Claim7.holds Tryd.pinned (.plain (OpenSpec.ofChange fnYoungestCountsRevisionsSpec)) fnYoungestCountsRevisionsCard

/-- THE TIED CARD OF 'zzlaws_repo_b1.FnFindAgreesWithPathTable'. -/
def fnFindAgreesWithPathTableCard : Claim7 := { stood := { row := fnFindAgreesWithPathTableRow, standIns := [], harness := (true, "5778bccadbb02c291d3c568c51c454bd9aaff0603a538bad2a75ae9f0cef5ee8"), looks := false }, kinds := [], alts := [], laidByText := true, laidKinds := [.data, .pinned], laidTests := true, laidLooks := .later }
def FnFindAgreesWithPathTableCardSaid : Prop := Claim7.holds Tryd.pinned (.plain (OpenSpec.ofChange fnFindAgreesWithPathTableSpec)) fnFindAgreesWithPathTableCard

/-- THE TIED CARD OF 'zzlaws_repo_b1.FnFindRoundTripsEveryPath'. -/
def fnFindRoundTripsEveryPathCard : Claim7 := { stood := { row := fnFindRoundTripsEveryPathRow, standIns := [], harness := (true, "5778bccadbb02c291d3c568c51c454bd9aaff0603a538bad2a75ae9f0cef5ee8"), looks := false }, kinds := [], alts := [], laidByText := true, laidKinds := [.data, .pinned], laidTests := true, laidLooks := .later }
def FnFindRoundTripsEveryPathCardSaid : Prop := Claim7.holds Tryd.pinned (.plain (OpenSpec.ofChange fnFindRoundTripsEveryPathSpec)) fnFindRoundTripsEveryPathCard

/-- THE TIED CARD OF 'zzlaws_repo_b1.FnKindAgreesWithModel'. -/
def fnKindAgreesWithModelCard : Claim7 := { stood := { row := fnKindAgreesWithModelRow, standIns := [], harness := (true, "5778bccadbb02c291d3c568c51c454bd9aaff0603a538bad2a75ae9f0cef5ee8"), looks := false }, kinds := [], alts := [], laidByText := true, laidKinds := [.data, .pinned], laidTests := true, laidLooks := .later }
def FnKindAgreesWithModelCardSaid : Prop := Claim7.holds Tryd.pinned (.plain (OpenSpec.ofChange fnKindAgreesWithModelSpec)) fnKindAgreesWithModelCard

/-- THE TIED CARD OF 'zzlaws_repo_b1.FnKindOfEveryBuiltPath'. -/
def fnKindOfEveryBuiltPathCard : Claim7 := { stood := { row := fnKindOfEveryBuiltPathRow, standIns := [], harness := (true, "5778bccadbb02c291d3c568c51c454bd9aaff0603a538bad2a75ae9f0cef5ee8"), looks := false }, kinds := [], alts := [], laidByText := true, laidKinds := [.data, .pinned], laidTests := true, laidLooks := .later }
def FnKindOfEveryBuiltPathCardSaid : Prop := Claim7.holds Tryd.pinned (.plain (OpenSpec.ofChange fnKindOfEveryBuiltPathSpec)) fnKindOfEveryBuiltPathCard
end Rows
end Go.Proofs.Qxb6605817aDoor
