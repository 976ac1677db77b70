/-
  DERIVED. GIVEN WITH THE SEED: THE CARDS: each row of Qxb6605512aDoorRows.lean that lists a variable, with what it lists TIED to the program's text (the seventh form; the later family's looks); each row that meets fmt, with fmt's text TOLD by the authors' own Lean function (tested against real Go, not proved from fmt's source: count such statements apart). THE CARD IS WHAT COUNTS. Prove the row's statement (the work); the ties are given (Qxb6605512aDoorTie.lean); close each card by the builder's one call (the guide's Derived/Test/ToyasCard.lean, 'card_holds'). Laid BY PROGRAM, IN A SANDBOX (cutbox-door.mjs). By AI agents, Wed Nov 11 2026. No macro, syntax, notation, axiom, sorry.
-/
import Derived.Test.Qxb6605512aDoorRows
import GoSem.ClaimSeven
namespace Go.Proofs.Qxb6605512aDoor
namespace Rows

/-- THE TIED CARD OF 'zzlaws_internal_inventory_b1.FnValidPropertyKeyMatchesScan'. -/
def fnValidPropertyKeyMatchesScanCard : Claim7 := { stood := { row := fnValidPropertyKeyMatchesScanRow, standIns := [], harness := (true, "d42f9f32fa295d68ff279b373ce1be8962f5950d812bcb0dcaa9145cd0d06501"), looks := false }, kinds := [], alts := [], laidByText := true, laidKinds := [.data, .pinned], laidTests := true, laidLooks := .later }
def FnValidPropertyKeyMatchesScanCardSaid : Prop := Claim7.holds Tryd.pinned (.plain (OpenSpec.ofChange fnValidPropertyKeyMatchesScanSpec)) fnValidPropertyKeyMatchesScanCard

/-- THE TIED CARD OF 'zzlaws_internal_inventory_b1.FnValidPropertyKeyJoin'. -/
def fnValidPropertyKeyJoinCard : Claim7 := { stood := { row := fnValidPropertyKeyJoinRow, standIns := [], harness := (true, "d42f9f32fa295d68ff279b373ce1be8962f5950d812bcb0dcaa9145cd0d06501"), looks := false }, kinds := [], alts := [], laidByText := true, laidKinds := [.data, .pinned], laidTests := true, laidLooks := .later }
def FnValidPropertyKeyJoinCardSaid : Prop := Claim7.holds Tryd.pinned (.plain (OpenSpec.ofChange fnValidPropertyKeyJoinSpec)) fnValidPropertyKeyJoinCard
end Rows
end Go.Proofs.Qxb6605512aDoor
