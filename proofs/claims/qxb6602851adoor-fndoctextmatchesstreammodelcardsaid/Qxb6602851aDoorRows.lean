/-
  NARROWER THAN 'FOR EVERY INPUT', by the rows' own cells (each row's printed sentence says how): FnDocTextMatchesStreamModel: laid · FnDocTextReadsBackStarredComment: laid · FnDocTextIgnoresCRLFAndBlankFrame: laid.
  DERIVED. THE GIVEN ROWS OF THIS SEAT. 3 by the template 'for every input the law returns true; each argument reads behind the call as it read before'; 0 by the template 'total and deterministic' (their statements: Qxb6602851aDoorTotals.lean).
  GIVEN WITH THE SEED: the statements are not yours to turn. If you find one false, say at which input.
  Laid BY PROGRAM, IN A SANDBOX (cutbox-rows.mjs): the forced cells as the released guide's own fill.sh prints them over the translation 8edba385dea7f4ea… (all of the seat's roots in one cut). By AI agents, Wed Nov 11 2026. No macro, syntax, notation, axiom, sorry.
-/
import Derived.Test.Qxb6602851aDoorChecked
import GoSem.PinnedTables
import GoSem.Claim
import GoSem.ClaimJoined
import GoSem.ClaimMapViews
import Derived.JoinedTies
import Derived.KernelRfl
namespace Go.Proofs.Qxb6602851aDoor
/- THE CELL 'sum', in the pinned program and in every row, IS THE sha256 OF THE DUMP (.gsa) THAT Qxb6602851aDoorProg.lean LOADS. Nothing in Lean hashes anything: it is a label: what it is worth is what the hold of that sum in a sandbox is worth. -/
noncomputable def Tryd.pinned : Pinned := { name := "qxb6602851adoor", sum := "8edba385dea7f4eaa061521ddb39eb016651a171d822dbce12e11a9b25b39572", checked := Tryd.checked }
namespace Rows
def none {H : Type} : Left H := { results := [], args := [] }

/- WHAT THE LISTED PACKAGE-LEVEL VARIABLES READ AS WHEN THE CALL BEGINS. Each datum BY PROGRAM (the guide's laid-datum.mjs) off the statement by which the dump's own 'gosem.cut.vars' lays the variable. In a bare row this is a premise. The card (Qxb6602851aDoorCards.lean) ties it to the program's text. -/
def laid_unicode_utf8_acceptRanges {H : Type} : DataW H := .agg [.agg [.lit (.int .u8 128), .lit (.int .u8 191)], .agg [.lit (.int .u8 160), .lit (.int .u8 191)], .agg [.lit (.int .u8 128), .lit (.int .u8 159)], .agg [.lit (.int .u8 144), .lit (.int .u8 191)], .agg [.lit (.int .u8 128), .lit (.int .u8 143)], .agg [.lit (.int .u8 0), .lit (.int .u8 0)], .agg [.lit (.int .u8 0), .lit (.int .u8 0)], .agg [.lit (.int .u8 0), .lit (.int .u8 0)], .agg [.lit (.int .u8 0), .lit (.int .u8 0)], .agg [.lit (.int .u8 0), .lit (.int .u8 0)], .agg [.lit (.int .u8 0), .lit (.int .u8 0)], .agg [.lit (.int .u8 0), .lit (.int .u8 0)], .agg [.lit (.int .u8 0), .lit (.int .u8 0)], .agg [.lit (.int .u8 0), .lit (.int .u8 0)], .agg [.lit (.int .u8 0), .lit (.int .u8 0)], .agg [.lit (.int .u8 0), .lit (.int .u8 0)]]
/-- One of Go's own tables, pinned by name: the form's constant. -/
def laid_unicode_utf8_first : DataW Unit := Go.Pinned.utf8First

/-- 'zzlaws_internal_thrift_b1.FnDocTextMatchesStreamModel': WHATEVER THE INPUT: true; the input reads as it did. -/
def fnDocTextMatchesStreamModelSpec : ChangeSpec := { name := "fnDocTextMatchesStreamModel", fn := fun _ => fun
  | [d] => { results := [.lit (.bool true)], args := [d] }
  | _ => none }
def fnDocTextMatchesStreamModelRow : OpenClaim := { program := "qxb6602851adoor", sum := "8edba385dea7f4eaa061521ddb39eb016651a171d822dbce12e11a9b25b39572", func := "example.com/epithet/epithet/zzlaws_internal_thrift_b1.FnDocTextMatchesStreamModel", spec := "fnDocTextMatchesStreamModel", inPlace := ["internal/bytealg.CountString", "internal/bytealg.IndexByteString", "internal/bytealg.IndexString", "internal/abi.NoEscape", "internal/bytealg.MakeNoZero"], named := ["unicode/utf8.first", "unicode/utf8.acceptRanges", "internal/bytealg.MaxLen"], apart := false, laid := [("unicode/utf8.acceptRanges", laid_unicode_utf8_acceptRanges), ("unicode/utf8.first", laid_unicode_utf8_first)] }
def FnDocTextMatchesStreamModelSaid : Prop := fnDocTextMatchesStreamModelRow.holds Tryd.pinned (OpenSpec.ofChange fnDocTextMatchesStreamModelSpec)

/-- ITS FALSE NEIGHBOUR: 'it returns false'. Refute it at one input. -/
def fnDocTextMatchesStreamModelWrong : ChangeSpec := { name := "fnDocTextMatchesStreamModel", fn := fun _ => fun
  | [d] => { results := [.lit (.bool false)], args := [d] }
  | _ => none }
def FnDocTextMatchesStreamModelWrongFalsely : Prop := fnDocTextMatchesStreamModelRow.holds Tryd.pinned (OpenSpec.ofChange fnDocTextMatchesStreamModelWrong)

/-- 'zzlaws_internal_thrift_b1.FnDocTextReadsBackStarredComment': WHATEVER THE INPUT: true; the input reads as it did. -/
def fnDocTextReadsBackStarredCommentSpec : ChangeSpec := { name := "fnDocTextReadsBackStarredComment", fn := fun _ => fun
  | [d] => { results := [.lit (.bool true)], args := [d] }
  | _ => none }
def fnDocTextReadsBackStarredCommentRow : OpenClaim := { program := "qxb6602851adoor", sum := "8edba385dea7f4eaa061521ddb39eb016651a171d822dbce12e11a9b25b39572", func := "example.com/epithet/epithet/zzlaws_internal_thrift_b1.FnDocTextReadsBackStarredComment", spec := "fnDocTextReadsBackStarredComment", inPlace := ["internal/bytealg.CountString", "internal/bytealg.IndexByteString", "internal/bytealg.IndexString", "internal/abi.NoEscape", "internal/bytealg.MakeNoZero"], named := ["unicode/utf8.first", "unicode/utf8.acceptRanges", "internal/bytealg.MaxLen"], apart := false, laid := [("unicode/utf8.acceptRanges", laid_unicode_utf8_acceptRanges), ("unicode/utf8.first", laid_unicode_utf8_first)] }
def FnDocTextReadsBackStarredCommentSaid : Prop := fnDocTextReadsBackStarredCommentRow.holds Tryd.pinned (OpenSpec.ofChange fnDocTextReadsBackStarredCommentSpec)

/-- ITS FALSE NEIGHBOUR: 'it returns false'. Refute it at one input. -/
def fnDocTextReadsBackStarredCommentWrong : ChangeSpec := { name := "fnDocTextReadsBackStarredComment", fn := fun _ => fun
  | [d] => { results := [.lit (.bool false)], args := [d] }
  | _ => none }
def FnDocTextReadsBackStarredCommentWrongFalsely : Prop := fnDocTextReadsBackStarredCommentRow.holds Tryd.pinned (OpenSpec.ofChange fnDocTextReadsBackStarredCommentWrong)

/-- 'zzlaws_internal_thrift_b1.FnDocTextIgnoresCRLFAndBlankFrame': WHATEVER THE INPUT: true; the input reads as it did. -/
def fnDocTextIgnoresCRLFAndBlankFrameSpec : ChangeSpec := { name := "fnDocTextIgnoresCRLFAndBlankFrame", fn := fun _ => fun
  | [d] => { results := [.lit (.bool true)], args := [d] }
  | _ => none }
def fnDocTextIgnoresCRLFAndBlankFrameRow : OpenClaim := { program := "qxb6602851adoor", sum := "8edba385dea7f4eaa061521ddb39eb016651a171d822dbce12e11a9b25b39572", func := "example.com/epithet/epithet/zzlaws_internal_thrift_b1.FnDocTextIgnoresCRLFAndBlankFrame", spec := "fnDocTextIgnoresCRLFAndBlankFrame", inPlace := ["internal/bytealg.CountString", "internal/bytealg.IndexByteString", "internal/bytealg.IndexString", "internal/abi.NoEscape", "internal/bytealg.MakeNoZero"], named := ["unicode/utf8.first", "unicode/utf8.acceptRanges", "internal/bytealg.MaxLen"], apart := false, laid := [("unicode/utf8.acceptRanges", laid_unicode_utf8_acceptRanges), ("unicode/utf8.first", laid_unicode_utf8_first)] }
def FnDocTextIgnoresCRLFAndBlankFrameSaid : Prop := fnDocTextIgnoresCRLFAndBlankFrameRow.holds Tryd.pinned (OpenSpec.ofChange fnDocTextIgnoresCRLFAndBlankFrameSpec)

/-- ITS FALSE NEIGHBOUR: 'it returns false'. Refute it at one input. -/
def fnDocTextIgnoresCRLFAndBlankFrameWrong : ChangeSpec := { name := "fnDocTextIgnoresCRLFAndBlankFrame", fn := fun _ => fun
  | [d] => { results := [.lit (.bool false)], args := [d] }
  | _ => none }
def FnDocTextIgnoresCRLFAndBlankFrameWrongFalsely : Prop := fnDocTextIgnoresCRLFAndBlankFrameRow.holds Tryd.pinned (OpenSpec.ofChange fnDocTextIgnoresCRLFAndBlankFrameWrong)

end Rows
end Go.Proofs.Qxb6602851aDoor
