/-
  NARROWER THAN 'FOR EVERY INPUT', by the rows' own cells (each row's printed sentence says how): FnYoungestCountsRevisions: laid · FnFindAgreesWithPathTable: laid · FnFindRoundTripsEveryPath: laid · FnKindAgreesWithModel: laid · FnKindOfEveryBuiltPath: laid.
  DERIVED. THE GIVEN ROWS OF THIS SEAT. 5 by the template 'for every input the law returns true; each argument reads behind the call as it read before'; 0 by the template 'total and deterministic' (their statements: Qxb6605817aDoorTotals.lean).
  GIVEN WITH THE SEED: the statements are not yours to turn. If you find one false, say at which input.
  Laid BY PROGRAM, IN A SANDBOX (cutbox-rows.mjs): the forced cells as the released guide's own fill.sh prints them over the translation 182bbe621c9e4eca… (all of the seat's roots in one cut). By AI agents, Wed Nov 11 2026. No macro, syntax, notation, axiom, sorry.
-/
import Derived.Test.Qxb6605817aDoorChecked
import GoSem.PinnedTables
import GoSem.Claim
import GoSem.ClaimJoined
import GoSem.ClaimMapViews
import Derived.JoinedTies
import Derived.KernelRfl
namespace Go.Proofs.Qxb6605817aDoor
/- THE CELL 'sum', in the pinned program and in every row, IS THE sha256 OF THE DUMP (.gsa) THAT Qxb6605817aDoorProg.lean LOADS. Nothing in Lean hashes anything: it is a label: what it is worth is what the hold of that sum in a sandbox is worth. -/
noncomputable def Tryd.pinned : Pinned := { name := "qxb6605817adoor", sum := "182bbe621c9e4eca6e3659655dd5dafd3f7c690fef3823f74d377ac3111549df", checked := Tryd.checked }
namespace Rows
def none {H : Type} : Left H := { results := [], args := [] }

/- WHAT THE LISTED PACKAGE-LEVEL VARIABLES READ AS WHEN THE CALL BEGINS. Each datum BY PROGRAM (the guide's laid-datum.mjs) off the statement by which the dump's own 'gosem.cut.vars' lays the variable. In a bare row this is a premise. The card (Qxb6605817aDoorCards.lean) ties it to the program's text. -/
def laid_unicode_utf8_acceptRanges {H : Type} : DataW H := .agg [.agg [.lit (.int .u8 128), .lit (.int .u8 191)], .agg [.lit (.int .u8 160), .lit (.int .u8 191)], .agg [.lit (.int .u8 128), .lit (.int .u8 159)], .agg [.lit (.int .u8 144), .lit (.int .u8 191)], .agg [.lit (.int .u8 128), .lit (.int .u8 143)], .agg [.lit (.int .u8 0), .lit (.int .u8 0)], .agg [.lit (.int .u8 0), .lit (.int .u8 0)], .agg [.lit (.int .u8 0), .lit (.int .u8 0)], .agg [.lit (.int .u8 0), .lit (.int .u8 0)], .agg [.lit (.int .u8 0), .lit (.int .u8 0)], .agg [.lit (.int .u8 0), .lit (.int .u8 0)], .agg [.lit (.int .u8 0), .lit (.int .u8 0)], .agg [.lit (.int .u8 0), .lit (.int .u8 0)], .agg [.lit (.int .u8 0), .lit (.int .u8 0)], .agg [.lit (.int .u8 0), .lit (.int .u8 0)], .agg [.lit (.int .u8 0), .lit (.int .u8 0)]]
/-- One of Go's own tables, pinned by name: the form's constant. -/
def laid_unicode_utf8_first : DataW Unit := Go.Pinned.utf8First

/-- 'zzlaws_repo_b1.FnYoungestCountsRevisions': WHATEVER THE INPUT: true; the input reads as it did. -/
def fnYoungestCountsRevisionsSpec : ChangeSpec := { name := "fnYoungestCountsRevisions", fn := fun _ => fun
  | [d1, d2] => { results := [.lit (.bool true)], args := [d1, d2] }
  | _ => none }
def fnYoungestCountsRevisionsRow : OpenClaim := { program := "qxb6605817adoor", sum := "182bbe621c9e4eca6e3659655dd5dafd3f7c690fef3823f74d377ac3111549df", func := "example.com/ingrain/ingrain/zzlaws_repo_b1.FnYoungestCountsRevisions", spec := "fnYoungestCountsRevisions", inPlace := ["internal/bytealg.IndexByteString", "internal/bytealg.IndexString"], unfollowed := true, recurses := true, named := ["unicode/utf8.first", "unicode/utf8.acceptRanges", "internal/bytealg.MaxLen"], apart := false, laid := [("unicode/utf8.acceptRanges", laid_unicode_utf8_acceptRanges), ("unicode/utf8.first", laid_unicode_utf8_first)] }
def FnYoungestCountsRevisionsSaid : Prop := fnYoungestCountsRevisionsRow.holds Tryd.pinned (OpenSpec.ofChange fnYoungestCountsRevisionsSpec)

/-- ITS FALSE NEIGHBOUR: 'it returns false'. Refute it at one input. -/
def fnYoungestCountsRevisionsWrong : ChangeSpec := { name := "fnYoungestCountsRevisions", fn := fun _ => fun
  | [d1, d2] => { results := [.lit (.bool false)], args := [d1, d2] }
  | _ => none }
def FnYoungestCountsRevisionsWrongFalsely : Prop := fnYoungestCountsRevisionsRow.holds Tryd.pinned (OpenSpec.ofChange fnYoungestCountsRevisionsWrong)

/-- 'zzlaws_repo_b1.FnFindAgreesWithPathTable': WHATEVER THE INPUT: true; the input reads as it did. -/
def fnFindAgreesWithPathTableSpec : ChangeSpec := { name := "fnFindAgreesWithPathTable", fn := fun _ => fun
  | [d1, d2] => { results := [.lit (.bool true)], args := [d1, d2] }
  | _ => none }
def fnFindAgreesWithPathTableRow : OpenClaim := { program := "qxb6605817adoor", sum := "182bbe621c9e4eca6e3659655dd5dafd3f7c690fef3823f74d377ac3111549df", func := "example.com/ingrain/ingrain/zzlaws_repo_b1.FnFindAgreesWithPathTable", spec := "fnFindAgreesWithPathTable", inPlace := ["internal/bytealg.IndexByteString", "internal/bytealg.IndexString"], unfollowed := true, recurses := true, named := ["unicode/utf8.first", "unicode/utf8.acceptRanges", "internal/bytealg.MaxLen"], apart := false, laid := [("unicode/utf8.acceptRanges", laid_unicode_utf8_acceptRanges), ("unicode/utf8.first", laid_unicode_utf8_first)] }
def FnFindAgreesWithPathTableSaid : Prop := fnFindAgreesWithPathTableRow.holds Tryd.pinned (OpenSpec.ofChange fnFindAgreesWithPathTableSpec)

/-- ITS FALSE NEIGHBOUR: 'it returns false'. Refute it at one input. -/
def fnFindAgreesWithPathTableWrong : ChangeSpec := { name := "fnFindAgreesWithPathTable", fn := fun _ => fun
  | [d1, d2] => { results := [.lit (.bool false)], args := [d1, d2] }
  | _ => none }
def FnFindAgreesWithPathTableWrongFalsely : Prop := fnFindAgreesWithPathTableRow.holds Tryd.pinned (OpenSpec.ofChange fnFindAgreesWithPathTableWrong)

/-- 'zzlaws_repo_b1.FnFindRoundTripsEveryPath': WHATEVER THE INPUT: true; the input reads as it did. -/
def fnFindRoundTripsEveryPathSpec : ChangeSpec := { name := "fnFindRoundTripsEveryPath", fn := fun _ => fun
  | [d] => { results := [.lit (.bool true)], args := [d] }
  | _ => none }
def fnFindRoundTripsEveryPathRow : OpenClaim := { program := "qxb6605817adoor", sum := "182bbe621c9e4eca6e3659655dd5dafd3f7c690fef3823f74d377ac3111549df", func := "example.com/ingrain/ingrain/zzlaws_repo_b1.FnFindRoundTripsEveryPath", spec := "fnFindRoundTripsEveryPath", inPlace := ["internal/bytealg.IndexByteString", "internal/bytealg.IndexString"], unfollowed := true, recurses := true, named := ["unicode/utf8.first", "unicode/utf8.acceptRanges", "internal/bytealg.MaxLen"], apart := false, laid := [("unicode/utf8.acceptRanges", laid_unicode_utf8_acceptRanges), ("unicode/utf8.first", laid_unicode_utf8_first)] }
def FnFindRoundTripsEveryPathSaid : Prop := fnFindRoundTripsEveryPathRow.holds Tryd.pinned (OpenSpec.ofChange fnFindRoundTripsEveryPathSpec)

/-- ITS FALSE NEIGHBOUR: 'it returns false'. Refute it at one input. -/
def fnFindRoundTripsEveryPathWrong : ChangeSpec := { name := "fnFindRoundTripsEveryPath", fn := fun _ => fun
  | [d] => { results := [.lit (.bool false)], args := [d] }
  | _ => none }
def FnFindRoundTripsEveryPathWrongFalsely : Prop := fnFindRoundTripsEveryPathRow.holds Tryd.pinned (OpenSpec.ofChange fnFindRoundTripsEveryPathWrong)

/-- 'zzlaws_repo_b1.FnKindAgreesWithModel': WHATEVER THE INPUT: true; the input reads as it did. -/
def fnKindAgreesWithModelSpec : ChangeSpec := { name := "fnKindAgreesWithModel", fn := fun _ => fun
  | [d1, d2, d3, d4] => { results := [.lit (.bool true)], args := [d1, d2, d3, d4] }
  | _ => none }
def fnKindAgreesWithModelRow : OpenClaim := { program := "qxb6605817adoor", sum := "182bbe621c9e4eca6e3659655dd5dafd3f7c690fef3823f74d377ac3111549df", func := "example.com/ingrain/ingrain/zzlaws_repo_b1.FnKindAgreesWithModel", spec := "fnKindAgreesWithModel", inPlace := ["internal/bytealg.IndexByteString", "internal/bytealg.IndexString"], unfollowed := true, recurses := true, named := ["unicode/utf8.first", "unicode/utf8.acceptRanges", "internal/bytealg.MaxLen"], apart := false, laid := [("unicode/utf8.acceptRanges", laid_unicode_utf8_acceptRanges), ("unicode/utf8.first", laid_unicode_utf8_first)] }
def FnKindAgreesWithModelSaid : Prop := fnKindAgreesWithModelRow.holds Tryd.pinned (OpenSpec.ofChange fnKindAgreesWithModelSpec)

/-- ITS FALSE NEIGHBOUR: 'it returns false'. Refute it at one input. -/
def fnKindAgreesWithModelWrong : ChangeSpec := { name := "fnKindAgreesWithModel", fn := fun _ => fun
  | [d1, d2, d3, d4] => { results := [.lit (.bool false)], args := [d1, d2, d3, d4] }
  | _ => none }
def FnKindAgreesWithModelWrongFalsely : Prop := fnKindAgreesWithModelRow.holds Tryd.pinned (OpenSpec.ofChange fnKindAgreesWithModelWrong)

/-- 'zzlaws_repo_b1.FnKindOfEveryBuiltPath': WHATEVER THE INPUT: true; the input reads as it did. -/
def fnKindOfEveryBuiltPathSpec : ChangeSpec := { name := "fnKindOfEveryBuiltPath", fn := fun _ => fun
  | [d1, d2] => { results := [.lit (.bool true)], args := [d1, d2] }
  | _ => none }
def fnKindOfEveryBuiltPathRow : OpenClaim := { program := "qxb6605817adoor", sum := "182bbe621c9e4eca6e3659655dd5dafd3f7c690fef3823f74d377ac3111549df", func := "example.com/ingrain/ingrain/zzlaws_repo_b1.FnKindOfEveryBuiltPath", spec := "fnKindOfEveryBuiltPath", inPlace := ["internal/bytealg.IndexByteString", "internal/bytealg.IndexString"], unfollowed := true, recurses := true, named := ["unicode/utf8.first", "unicode/utf8.acceptRanges", "internal/bytealg.MaxLen"], apart := false, laid := [("unicode/utf8.acceptRanges", laid_unicode_utf8_acceptRanges), ("unicode/utf8.first", laid_unicode_utf8_first)] }
def FnKindOfEveryBuiltPathSaid : Prop := fnKindOfEveryBuiltPathRow.holds Tryd.pinned (OpenSpec.ofChange fnKindOfEveryBuiltPathSpec)

/-- ITS FALSE NEIGHBOUR: 'it returns false'. Refute it at one input. -/
def fnKindOfEveryBuiltPathWrong : ChangeSpec := { name := "fnKindOfEveryBuiltPath", fn := fun _ => fun
  | [d1, d2] => { results := [.lit (.bool false)], args := [d1, d2] }
  | _ => none }
def FnKindOfEveryBuiltPathWrongFalsely : Prop := fnKindOfEveryBuiltPathRow.holds Tryd.pinned (OpenSpec.ofChange fnKindOfEveryBuiltPathWrong)

end Rows
end Go.Proofs.Qxb6605817aDoor
