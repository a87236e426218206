/-
  NARROWER THAN 'FOR EVERY INPUT', by the rows' own cells (each row's printed sentence says how): FnChallengesMatchElementModel: laid · FnChallengesOfTwoLinesJoinByComma: laid.
  DERIVED. THE GIVEN ROWS OF THIS SEAT. 2 by the template 'for every input the law returns true; each argument reads behind the call as it read before'; 0 by the template 'total and deterministic' (their statements: Qxb6613049aFmtTotals.lean).
  GIVEN WITH THE SEED: the statements are not yours to turn. If you find one false, say at which input.
  Laid BY PROGRAM, IN A SANDBOX (cutbox-rows.mjs): the forced cells as the released guide's own fill.sh prints them over the translation 0f60013196fa3a4b… (all of the seat's roots in one cut). By AI agents, Wed Nov 11 2026. No macro, syntax, notation, axiom, sorry.
-/
import Derived.Test.Qxb6613049aFmtChecked
import GoSem.PinnedTables
import GoSem.Claim
import GoSem.ClaimJoined
import GoSem.ClaimMapViews
import Derived.JoinedTies
import Derived.KernelRfl
namespace Go.Proofs.Qxb6613049aFmt
/- THE CELL 'sum', in the pinned program and in every row, IS THE sha256 OF THE DUMP (.gsa) THAT Qxb6613049aFmtProg.lean LOADS. Nothing in Lean hashes anything: it is a label: what it is worth is what the hold of that sum in a sandbox is worth. -/
noncomputable def Tryf.pinned : Pinned := { name := "qxb6613049afmt", sum := "0f60013196fa3a4bad58277128c61afa80bd9a9c9527c5239bfd19ffaf6f00d0", checked := Tryf.checked }
namespace Rows
def none {H : Type} : Left H := { results := [], args := [] }

/- WHAT THE LISTED PACKAGE-LEVEL VARIABLES READ AS WHEN THE CALL BEGINS. Each datum BY PROGRAM (the guide's laid-datum.mjs) off the statement by which the dump's own 'gosem.cut.vars' lays the variable. In a bare row this is a premise. The card (Qxb6613049aFmtCards.lean) ties it to the program's text. -/
def laid_unicode_utf8_acceptRanges {H : Type} : DataW H := .agg [.agg [.lit (.int .u8 128), .lit (.int .u8 191)], .agg [.lit (.int .u8 160), .lit (.int .u8 191)], .agg [.lit (.int .u8 128), .lit (.int .u8 159)], .agg [.lit (.int .u8 144), .lit (.int .u8 191)], .agg [.lit (.int .u8 128), .lit (.int .u8 143)], .agg [.lit (.int .u8 0), .lit (.int .u8 0)], .agg [.lit (.int .u8 0), .lit (.int .u8 0)], .agg [.lit (.int .u8 0), .lit (.int .u8 0)], .agg [.lit (.int .u8 0), .lit (.int .u8 0)], .agg [.lit (.int .u8 0), .lit (.int .u8 0)], .agg [.lit (.int .u8 0), .lit (.int .u8 0)], .agg [.lit (.int .u8 0), .lit (.int .u8 0)], .agg [.lit (.int .u8 0), .lit (.int .u8 0)], .agg [.lit (.int .u8 0), .lit (.int .u8 0)], .agg [.lit (.int .u8 0), .lit (.int .u8 0)], .agg [.lit (.int .u8 0), .lit (.int .u8 0)]]
/-- One of Go's own tables, pinned by name: the form's constant. -/
def laid_unicode_CaseRanges : DataW Unit := Go.Pinned.caseRanges
/-- One of Go's own tables, pinned by name: the form's constant. -/
def laid_unicode_utf8_first : DataW Unit := Go.Pinned.utf8First

/-- 'zzlaws_root_b1.FnChallengesMatchElementModel': WHATEVER THE INPUT: true; the input reads as it did. -/
def fnChallengesMatchElementModelSpec : ChangeSpec := { name := "fnChallengesMatchElementModel", fn := fun _ => fun
  | [d1, d2, d3, d4] => { results := [.lit (.bool true)], args := [d1, d2, d3, d4] }
  | _ => none }
def fnChallengesMatchElementModelRow : OpenClaim := { program := "qxb6613049afmt", sum := "0f60013196fa3a4bad58277128c61afa80bd9a9c9527c5239bfd19ffaf6f00d0", func := "example.com/rungs/rungs/zzlaws_root_b1.FnChallengesMatchElementModel", spec := "fnChallengesMatchElementModel", stops := ["fmt.errorf"], inPlace := ["internal/bytealg.IndexByteString", "fmt.errorf", "internal/abi.NoEscape", "internal/bytealg.MakeNoZero"], unfollowed := true, recurses := true, named := ["unicode/utf8.first", "unicode/utf8.acceptRanges", "unicode.CaseRanges"], apart := false, laid := [("unicode/utf8.acceptRanges", laid_unicode_utf8_acceptRanges), ("unicode.CaseRanges", laid_unicode_CaseRanges), ("unicode/utf8.first", laid_unicode_utf8_first)] }
/-- NO THEOREM (fmt's text is open here; it may be false): for the released tool's asking of the row's closed facts alone. THE STATEMENT IS 'FnChallengesMatchElementModelToldSaid' (Qxb6613049aFmtCards.lean). -/
def FnChallengesMatchElementModelFormAsk : Prop := fnChallengesMatchElementModelRow.holds Tryf.pinned (OpenSpec.ofChange fnChallengesMatchElementModelSpec)

/-- ITS FALSE NEIGHBOUR: 'it returns false'. Refute it at one input. -/
def fnChallengesMatchElementModelWrong : ChangeSpec := { name := "fnChallengesMatchElementModel", fn := fun _ => fun
  | [d1, d2, d3, d4] => { results := [.lit (.bool false)], args := [d1, d2, d3, d4] }
  | _ => none }
def FnChallengesMatchElementModelWrongFormAsk : Prop := fnChallengesMatchElementModelRow.holds Tryf.pinned (OpenSpec.ofChange fnChallengesMatchElementModelWrong)

/-- 'zzlaws_root_b1.FnChallengesOfTwoLinesJoinByComma': WHATEVER THE INPUT: true; the input reads as it did. -/
def fnChallengesOfTwoLinesJoinByCommaSpec : ChangeSpec := { name := "fnChallengesOfTwoLinesJoinByComma", fn := fun _ => fun
  | [d1, d2] => { results := [.lit (.bool true)], args := [d1, d2] }
  | _ => none }
def fnChallengesOfTwoLinesJoinByCommaRow : OpenClaim := { program := "qxb6613049afmt", sum := "0f60013196fa3a4bad58277128c61afa80bd9a9c9527c5239bfd19ffaf6f00d0", func := "example.com/rungs/rungs/zzlaws_root_b1.FnChallengesOfTwoLinesJoinByComma", spec := "fnChallengesOfTwoLinesJoinByComma", stops := ["fmt.errorf"], inPlace := ["internal/bytealg.IndexByteString", "fmt.errorf", "internal/abi.NoEscape", "internal/bytealg.MakeNoZero"], unfollowed := true, recurses := true, named := ["unicode/utf8.first", "unicode/utf8.acceptRanges", "unicode.CaseRanges"], apart := false, laid := [("unicode/utf8.acceptRanges", laid_unicode_utf8_acceptRanges), ("unicode.CaseRanges", laid_unicode_CaseRanges), ("unicode/utf8.first", laid_unicode_utf8_first)] }
/-- NO THEOREM (fmt's text is open here; it may be false): for the released tool's asking of the row's closed facts alone. THE STATEMENT IS 'FnChallengesOfTwoLinesJoinByCommaToldSaid' (Qxb6613049aFmtCards.lean). -/
def FnChallengesOfTwoLinesJoinByCommaFormAsk : Prop := fnChallengesOfTwoLinesJoinByCommaRow.holds Tryf.pinned (OpenSpec.ofChange fnChallengesOfTwoLinesJoinByCommaSpec)

/-- ITS FALSE NEIGHBOUR: 'it returns false'. Refute it at one input. -/
def fnChallengesOfTwoLinesJoinByCommaWrong : ChangeSpec := { name := "fnChallengesOfTwoLinesJoinByComma", fn := fun _ => fun
  | [d1, d2] => { results := [.lit (.bool false)], args := [d1, d2] }
  | _ => none }
def FnChallengesOfTwoLinesJoinByCommaWrongFormAsk : Prop := fnChallengesOfTwoLinesJoinByCommaRow.holds Tryf.pinned (OpenSpec.ofChange fnChallengesOfTwoLinesJoinByCommaWrong)

end Rows
end Go.Proofs.Qxb6613049aFmt
