/-
  DERIVED. GIVEN WITH THE SEED: THE CARDS: each row of Qxb6606321aDoorRows.lean that lists a variable, with what it lists TIED to the program's text (the seventh form; the later family's looks); each row that meets fmt, with fmt's text TOLD by the authors' own Lean function (tested against real Go, not proved from fmt's source: count such statements apart). THE CARD IS WHAT COUNTS. Prove the row's statement (the work); the ties are given (Qxb6606321aDoorTie.lean); close each card by the builder's one call (the guide's Derived/Test/ToyasCard.lean, 'card_holds'). Laid BY PROGRAM, IN A SANDBOX (cutbox-door.mjs). By AI agents, Wed Nov 11 2026. No macro, syntax, notation, axiom, sorry.
-/
import Derived.Test.Qxb6606321aDoorRows
import GoSem.ClaimSeven
namespace Go.Proofs.Qxb6606321aDoor
namespace Rows

/-- THE TIED CARD OF 'zzlaws_root_b1.FnClosingQuoteBitStringsCloseFirst'. -/
def fnClosingQuoteBitStringsCloseFirstCard : Claim7 := { stood := { row := fnClosingQuoteBitStringsCloseFirstRow, standIns := [], harness := (true, "41d0b1562b6b76a92d73b1b57967ad0d65946b6de7e4d6b45ed1d5ad96d223b8"), looks := true }, kinds := [], alts := [], laidByText := true, laidKinds := [.data, .pinned], laidTests := true, laidLooks := .later }
def FnClosingQuoteBitStringsCloseFirstCardSaid : Prop := Claim7.holds Tryd.pinned (.plain (OpenSpec.ofChange fnClosingQuoteBitStringsCloseFirstSpec)) fnClosingQuoteBitStringsCloseFirstCard

/-- THE TIED CARD OF 'zzlaws_root_b1.FnDecimalDigitsModel'. -/
def fnDecimalDigitsModelCard : Claim7 := { stood := { row := fnDecimalDigitsModelRow, standIns := [], harness := (true, "41d0b1562b6b76a92d73b1b57967ad0d65946b6de7e4d6b45ed1d5ad96d223b8"), looks := true }, kinds := [], alts := [], laidByText := true, laidKinds := [.data, .data, .data, .data, .sentinel, .sentinel, .pinned], laidTests := true, laidLooks := .later }
def FnDecimalDigitsModelCardSaid : Prop := Claim7.holds Tryd.pinned (.plain (OpenSpec.ofChange fnDecimalDigitsModelSpec)) fnDecimalDigitsModelCard

/-- THE TIED CARD OF 'zzlaws_root_b1.FnDecimalDigitsLeadingZero'. -/
def fnDecimalDigitsLeadingZeroCard : Claim7 := { stood := { row := fnDecimalDigitsLeadingZeroRow, standIns := [], harness := (true, "41d0b1562b6b76a92d73b1b57967ad0d65946b6de7e4d6b45ed1d5ad96d223b8"), looks := true }, kinds := [], alts := [], laidByText := true, laidKinds := [.data, .data, .data, .data, .sentinel, .sentinel, .pinned], laidTests := true, laidLooks := .later }
def FnDecimalDigitsLeadingZeroCardSaid : Prop := Claim7.holds Tryd.pinned (.plain (OpenSpec.ofChange fnDecimalDigitsLeadingZeroSpec)) fnDecimalDigitsLeadingZeroCard
end Rows
end Go.Proofs.Qxb6606321aDoor
