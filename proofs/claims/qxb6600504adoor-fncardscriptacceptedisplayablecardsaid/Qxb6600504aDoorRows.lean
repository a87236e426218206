/-
  NARROWER THAN 'FOR EVERY INPUT', by the rows' own cells (each row's printed sentence says how): FnCardScriptIgnoresTextAfterDash: laid · FnCardScriptAcceptedIsPlayable: laid.
  DERIVED. THE GIVEN ROWS OF THIS SEAT. 2 by the template 'for every input the law returns true; each argument reads behind the call as it read before'; 0 by the template 'total and deterministic' (their statements: Qxb6600504aDoorTotals.lean).
  GIVEN WITH THE SEED: the statements are not yours to turn. If you find one false, say at which input.
  Laid BY PROGRAM, IN A SANDBOX (cutbox-rows.mjs): the forced cells as the released guide's own fill.sh prints them over the translation f392fb1f88f7aa95… (all of the seat's roots in one cut). By AI agents, Wed Nov 11 2026. No macro, syntax, notation, axiom, sorry.
-/
import Derived.Test.Qxb6600504aDoorChecked
import GoSem.PinnedTables
import GoSem.Claim
import GoSem.ClaimJoined
import GoSem.ClaimMapViews
import Derived.JoinedTies
import Derived.KernelRfl
namespace Go.Proofs.Qxb6600504aDoor
/- THE CELL 'sum', in the pinned program and in every row, IS THE sha256 OF THE DUMP (.gsa) THAT Qxb6600504aDoorProg.lean LOADS. Nothing in Lean hashes anything: it is a label: what it is worth is what the hold of that sum in a sandbox is worth. -/
noncomputable def Tryd.pinned : Pinned := { name := "qxb6600504adoor", sum := "f392fb1f88f7aa95d96779020ada4b4a7c3f4f79dd3ff1c6558f51e67c4d8c0a", checked := Tryd.checked }
namespace Rows
def none {H : Type} : Left H := { results := [], args := [] }

/- WHAT THE LISTED PACKAGE-LEVEL VARIABLES READ AS WHEN THE CALL BEGINS. Each datum BY PROGRAM (the guide's laid-datum.mjs) off the statement by which the dump's own 'gosem.cut.vars' lays the variable. In a bare row this is a premise. The card (Qxb6600504aDoorCards.lean) ties it to the program's text. -/
def laid_unicode_utf8_acceptRanges {H : Type} : DataW H := .agg [.agg [.lit (.int .u8 128), .lit (.int .u8 191)], .agg [.lit (.int .u8 160), .lit (.int .u8 191)], .agg [.lit (.int .u8 128), .lit (.int .u8 159)], .agg [.lit (.int .u8 144), .lit (.int .u8 191)], .agg [.lit (.int .u8 128), .lit (.int .u8 143)], .agg [.lit (.int .u8 0), .lit (.int .u8 0)], .agg [.lit (.int .u8 0), .lit (.int .u8 0)], .agg [.lit (.int .u8 0), .lit (.int .u8 0)], .agg [.lit (.int .u8 0), .lit (.int .u8 0)], .agg [.lit (.int .u8 0), .lit (.int .u8 0)], .agg [.lit (.int .u8 0), .lit (.int .u8 0)], .agg [.lit (.int .u8 0), .lit (.int .u8 0)], .agg [.lit (.int .u8 0), .lit (.int .u8 0)], .agg [.lit (.int .u8 0), .lit (.int .u8 0)], .agg [.lit (.int .u8 0), .lit (.int .u8 0)], .agg [.lit (.int .u8 0), .lit (.int .u8 0)]]
/-- One of Go's own tables, pinned by name: the form's constant. -/
def laid_unicode_utf8_first : DataW Unit := Go.Pinned.utf8First

/-- 'zzlaws_internal_sandbox_b1.FnCardScriptIgnoresTextAfterDash': WHATEVER THE INPUT: true; the input reads as it did. -/
def fnCardScriptIgnoresTextAfterDashSpec : ChangeSpec := { name := "fnCardScriptIgnoresTextAfterDash", fn := fun _ => fun
  | [d1, d2] => { results := [.lit (.bool true)], args := [d1, d2] }
  | _ => none }
def fnCardScriptIgnoresTextAfterDashRow : OpenClaim := { program := "qxb6600504adoor", sum := "f392fb1f88f7aa95d96779020ada4b4a7c3f4f79dd3ff1c6558f51e67c4d8c0a", func := "example.com/tenure/tenure/zzlaws_internal_sandbox_b1.FnCardScriptIgnoresTextAfterDash", spec := "fnCardScriptIgnoresTextAfterDash", inPlace := ["internal/bytealg.IndexByteString", "internal/bytealg.IndexString"], named := ["internal/bytealg.MaxLen", "unicode/utf8.first", "unicode/utf8.acceptRanges"], apart := false, laid := [("unicode/utf8.acceptRanges", laid_unicode_utf8_acceptRanges), ("unicode/utf8.first", laid_unicode_utf8_first)] }
def FnCardScriptIgnoresTextAfterDashSaid : Prop := fnCardScriptIgnoresTextAfterDashRow.holds Tryd.pinned (OpenSpec.ofChange fnCardScriptIgnoresTextAfterDashSpec)

/-- ITS FALSE NEIGHBOUR: 'it returns false'. Refute it at one input. -/
def fnCardScriptIgnoresTextAfterDashWrong : ChangeSpec := { name := "fnCardScriptIgnoresTextAfterDash", fn := fun _ => fun
  | [d1, d2] => { results := [.lit (.bool false)], args := [d1, d2] }
  | _ => none }
def FnCardScriptIgnoresTextAfterDashWrongFalsely : Prop := fnCardScriptIgnoresTextAfterDashRow.holds Tryd.pinned (OpenSpec.ofChange fnCardScriptIgnoresTextAfterDashWrong)

/-- 'zzlaws_internal_sandbox_b1.FnCardScriptAcceptedIsPlayable': WHATEVER THE INPUT: true; the input reads as it did. -/
def fnCardScriptAcceptedIsPlayableSpec : ChangeSpec := { name := "fnCardScriptAcceptedIsPlayable", fn := fun _ => fun
  | [d1, d2] => { results := [.lit (.bool true)], args := [d1, d2] }
  | _ => none }
def fnCardScriptAcceptedIsPlayableRow : OpenClaim := { program := "qxb6600504adoor", sum := "f392fb1f88f7aa95d96779020ada4b4a7c3f4f79dd3ff1c6558f51e67c4d8c0a", func := "example.com/tenure/tenure/zzlaws_internal_sandbox_b1.FnCardScriptAcceptedIsPlayable", spec := "fnCardScriptAcceptedIsPlayable", inPlace := ["internal/bytealg.IndexByteString", "internal/bytealg.IndexString"], named := ["internal/bytealg.MaxLen", "unicode/utf8.first", "unicode/utf8.acceptRanges"], apart := false, laid := [("unicode/utf8.acceptRanges", laid_unicode_utf8_acceptRanges), ("unicode/utf8.first", laid_unicode_utf8_first)] }
def FnCardScriptAcceptedIsPlayableSaid : Prop := fnCardScriptAcceptedIsPlayableRow.holds Tryd.pinned (OpenSpec.ofChange fnCardScriptAcceptedIsPlayableSpec)

/-- ITS FALSE NEIGHBOUR: 'it returns false'. Refute it at one input. -/
def fnCardScriptAcceptedIsPlayableWrong : ChangeSpec := { name := "fnCardScriptAcceptedIsPlayable", fn := fun _ => fun
  | [d1, d2] => { results := [.lit (.bool false)], args := [d1, d2] }
  | _ => none }
def FnCardScriptAcceptedIsPlayableWrongFalsely : Prop := fnCardScriptAcceptedIsPlayableRow.holds Tryd.pinned (OpenSpec.ofChange fnCardScriptAcceptedIsPlayableWrong)

end Rows
end Go.Proofs.Qxb6600504aDoor
