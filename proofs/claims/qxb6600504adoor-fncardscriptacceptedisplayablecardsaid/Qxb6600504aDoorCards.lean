/-
  DERIVED. GIVEN WITH THE SEED: THE CARDS: each row of Qxb6600504aDoorRows.lean that lists a variable, with what it lists TIED to the program's text (the seventh form; the later family's looks); each row that meets fmt, with fmt's text TOLD by the authors' own Lean function (tested against real Go, not proved from fmt's source: count such statements apart). THE CARD IS WHAT COUNTS. Prove the row's statement (the work); the ties are given (Qxb6600504aDoorTie.lean); close each card by the builder's one call (the guide's Derived/Test/ToyasCard.lean, 'card_holds'). Laid BY PROGRAM, IN A SANDBOX (cutbox-door.mjs). By AI agents, Wed Nov 11 2026. No macro, syntax, notation, axiom, sorry.
-/
import Derived.Test.Qxb6600504aDoorRows
import GoSem.ClaimSeven
namespace Go.Proofs.Qxb6600504aDoor
namespace Rows

/-- THE TIED CARD OF 'zzlaws_internal_sandbox_b1.FnCardScriptIgnoresTextAfterDash'. -/
def fnCardScriptIgnoresTextAfterDashCard : Claim7 := { stood := { row := fnCardScriptIgnoresTextAfterDashRow, standIns := [], harness := (true, "9f3cd471af34c2a533084d505a63403b76a921565fbcc3c978e7097a7e106539"), looks := false }, kinds := [], alts := [], laidByText := true, laidKinds := [.data, .pinned], laidTests := true, laidLooks := .later }
def FnCardScriptIgnoresTextAfterDashCardSaid : Prop := Claim7.holds Tryd.pinned (.plain (OpenSpec.ofChange fnCardScriptIgnoresTextAfterDashSpec)) fnCardScriptIgnoresTextAfterDashCard

/-- THE TIED CARD OF 'zzlaws_internal_sandbox_b1.FnCardScriptAcceptedIsPlayable'. -/
def fnCardScriptAcceptedIsPlayableCard : Claim7 := { stood := { row := fnCardScriptAcceptedIsPlayableRow, standIns := [], harness := (true, "9f3cd471af34c2a533084d505a63403b76a921565fbcc3c978e7097a7e106539"), looks := false }, kinds := [], alts := [], laidByText := true, laidKinds := [.data, .pinned], laidTests := true, laidLooks := .later }
def FnCardScriptAcceptedIsPlayableCardSaid : Prop := Claim7.holds Tryd.pinned (.plain (OpenSpec.ofChange fnCardScriptAcceptedIsPlayableSpec)) fnCardScriptAcceptedIsPlayableCard
end Rows
end Go.Proofs.Qxb6600504aDoor
