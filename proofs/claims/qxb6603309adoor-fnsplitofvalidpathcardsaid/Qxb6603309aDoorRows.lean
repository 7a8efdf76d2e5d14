/-
  NARROWER THAN 'FOR EVERY INPUT', by the rows' own cells (each row's printed sentence says how): FnValidPathMatchesModel: laid · FnValidPathConcat: laid · FnSplitOfValidPath: laid.
  DERIVED. THE GIVEN ROWS OF THIS SEAT. 3 by the template 'for every input the law returns true; each argument reads behind the call as it read before'; 0 by the template 'total and deterministic' (their statements: Qxb6603309aDoorTotals.lean).
  GIVEN WITH THE SEED: the statements are not yours to turn. If you find one false, say at which input.
  Laid BY PROGRAM, IN A SANDBOX (cutbox-rows.mjs): the forced cells as the released guide's own fill.sh prints them over the translation 6f20cf4e88fd0831… (all of the seat's roots in one cut). By AI agents, Wed Nov 11 2026. No macro, syntax, notation, axiom, sorry.
-/
import Derived.Test.Qxb6603309aDoorChecked
import GoSem.PinnedTables
import GoSem.Claim
import GoSem.ClaimJoined
import GoSem.ClaimMapViews
import Derived.JoinedTies
import Derived.KernelRfl
namespace Go.Proofs.Qxb6603309aDoor
/- THE CELL 'sum', in the pinned program and in every row, IS THE sha256 OF THE DUMP (.gsa) THAT Qxb6603309aDoorProg.lean LOADS. Nothing in Lean hashes anything: it is a label: what it is worth is what the hold of that sum in a sandbox is worth. -/
noncomputable def Tryd.pinned : Pinned := { name := "qxb6603309adoor", sum := "6f20cf4e88fd08314f80ab72d178b4504f2d55d376ce950a57801030b2f73b58", checked := Tryd.checked }
namespace Rows
def none {H : Type} : Left H := { results := [], args := [] }

/- WHAT THE LISTED PACKAGE-LEVEL VARIABLES READ AS WHEN THE CALL BEGINS. Each datum BY PROGRAM (the guide's laid-datum.mjs) off the statement by which the dump's own 'gosem.cut.vars' lays the variable. In a bare row this is a premise. The card (Qxb6603309aDoorCards.lean) ties it to the program's text. -/
def laid_unicode_utf8_acceptRanges {H : Type} : DataW H := .agg [.agg [.lit (.int .u8 128), .lit (.int .u8 191)], .agg [.lit (.int .u8 160), .lit (.int .u8 191)], .agg [.lit (.int .u8 128), .lit (.int .u8 159)], .agg [.lit (.int .u8 144), .lit (.int .u8 191)], .agg [.lit (.int .u8 128), .lit (.int .u8 143)], .agg [.lit (.int .u8 0), .lit (.int .u8 0)], .agg [.lit (.int .u8 0), .lit (.int .u8 0)], .agg [.lit (.int .u8 0), .lit (.int .u8 0)], .agg [.lit (.int .u8 0), .lit (.int .u8 0)], .agg [.lit (.int .u8 0), .lit (.int .u8 0)], .agg [.lit (.int .u8 0), .lit (.int .u8 0)], .agg [.lit (.int .u8 0), .lit (.int .u8 0)], .agg [.lit (.int .u8 0), .lit (.int .u8 0)], .agg [.lit (.int .u8 0), .lit (.int .u8 0)], .agg [.lit (.int .u8 0), .lit (.int .u8 0)], .agg [.lit (.int .u8 0), .lit (.int .u8 0)]]
/-- One of Go's own tables, pinned by name: the form's constant. -/
def laid_unicode_utf8_first : DataW Unit := Go.Pinned.utf8First

/-- 'zzlaws_internal_zkserver_b1.FnValidPathMatchesModel': WHATEVER THE INPUT: true; the input reads as it did. -/
def fnValidPathMatchesModelSpec : ChangeSpec := { name := "fnValidPathMatchesModel", fn := fun _ => fun
  | [d] => { results := [.lit (.bool true)], args := [d] }
  | _ => none }
def fnValidPathMatchesModelRow : OpenClaim := { program := "qxb6603309adoor", sum := "6f20cf4e88fd08314f80ab72d178b4504f2d55d376ce950a57801030b2f73b58", func := "example.com/stubwright/stubwright/zzlaws_internal_zkserver_b1.FnValidPathMatchesModel", spec := "fnValidPathMatchesModel", inPlace := ["internal/bytealg.CountString", "internal/bytealg.IndexByteString", "internal/bytealg.IndexString"], named := ["unicode/utf8.first", "unicode/utf8.acceptRanges", "internal/bytealg.MaxLen"], apart := false, laid := [("unicode/utf8.acceptRanges", laid_unicode_utf8_acceptRanges), ("unicode/utf8.first", laid_unicode_utf8_first)] }
def FnValidPathMatchesModelSaid : Prop := fnValidPathMatchesModelRow.holds Tryd.pinned (OpenSpec.ofChange fnValidPathMatchesModelSpec)

/-- ITS FALSE NEIGHBOUR: 'it returns false'. Refute it at one input. -/
def fnValidPathMatchesModelWrong : ChangeSpec := { name := "fnValidPathMatchesModel", fn := fun _ => fun
  | [d] => { results := [.lit (.bool false)], args := [d] }
  | _ => none }
def FnValidPathMatchesModelWrongFalsely : Prop := fnValidPathMatchesModelRow.holds Tryd.pinned (OpenSpec.ofChange fnValidPathMatchesModelWrong)

/-- 'zzlaws_internal_zkserver_b1.FnValidPathConcat': WHATEVER THE INPUT: true; the input reads as it did. -/
def fnValidPathConcatSpec : ChangeSpec := { name := "fnValidPathConcat", fn := fun _ => fun
  | [d1, d2] => { results := [.lit (.bool true)], args := [d1, d2] }
  | _ => none }
def fnValidPathConcatRow : OpenClaim := { program := "qxb6603309adoor", sum := "6f20cf4e88fd08314f80ab72d178b4504f2d55d376ce950a57801030b2f73b58", func := "example.com/stubwright/stubwright/zzlaws_internal_zkserver_b1.FnValidPathConcat", spec := "fnValidPathConcat", inPlace := ["internal/bytealg.CountString", "internal/bytealg.IndexByteString", "internal/bytealg.IndexString"], named := ["unicode/utf8.first", "unicode/utf8.acceptRanges", "internal/bytealg.MaxLen"], apart := false, laid := [("unicode/utf8.acceptRanges", laid_unicode_utf8_acceptRanges), ("unicode/utf8.first", laid_unicode_utf8_first)] }
def FnValidPathConcatSaid : Prop := fnValidPathConcatRow.holds Tryd.pinned (OpenSpec.ofChange fnValidPathConcatSpec)

/-- ITS FALSE NEIGHBOUR: 'it returns false'. Refute it at one input. -/
def fnValidPathConcatWrong : ChangeSpec := { name := "fnValidPathConcat", fn := fun _ => fun
  | [d1, d2] => { results := [.lit (.bool false)], args := [d1, d2] }
  | _ => none }
def FnValidPathConcatWrongFalsely : Prop := fnValidPathConcatRow.holds Tryd.pinned (OpenSpec.ofChange fnValidPathConcatWrong)

/-- 'zzlaws_internal_zkserver_b1.FnSplitOfValidPath': WHATEVER THE INPUT: true; the input reads as it did. -/
def fnSplitOfValidPathSpec : ChangeSpec := { name := "fnSplitOfValidPath", fn := fun _ => fun
  | [d] => { results := [.lit (.bool true)], args := [d] }
  | _ => none }
def fnSplitOfValidPathRow : OpenClaim := { program := "qxb6603309adoor", sum := "6f20cf4e88fd08314f80ab72d178b4504f2d55d376ce950a57801030b2f73b58", func := "example.com/stubwright/stubwright/zzlaws_internal_zkserver_b1.FnSplitOfValidPath", spec := "fnSplitOfValidPath", inPlace := ["internal/bytealg.CountString", "internal/bytealg.IndexByteString", "internal/bytealg.IndexString"], named := ["unicode/utf8.first", "unicode/utf8.acceptRanges", "internal/bytealg.MaxLen"], apart := false, laid := [("unicode/utf8.acceptRanges", laid_unicode_utf8_acceptRanges), ("unicode/utf8.first", laid_unicode_utf8_first)] }
def FnSplitOfValidPathSaid : Prop := fnSplitOfValidPathRow.holds Tryd.pinned (OpenSpec.ofChange fnSplitOfValidPathSpec)

/-- ITS FALSE NEIGHBOUR: 'it returns false'. Refute it at one input. -/
def fnSplitOfValidPathWrong : ChangeSpec := { name := "fnSplitOfValidPath", fn := fun _ => fun
  | [d] => { results := [.lit (.bool false)], args := [d] }
  | _ => none }
def FnSplitOfValidPathWrongFalsely : Prop := fnSplitOfValidPathRow.holds Tryd.pinned (OpenSpec.ofChange fnSplitOfValidPathWrong)

end Rows
end Go.Proofs.Qxb6603309aDoor
