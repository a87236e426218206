/-
  DERIVED. GIVEN WITH THE SEED: THE CARDS: each row of Qxb6605495aDoorRows.lean that lists a variable, with what it lists TIED to the program's text (the seventh form; the later family's looks); each row that meets fmt, with fmt's text TOLD by the authors' own Lean function (tested against real Go, not proved from fmt's source: count such statements apart). THE CARD IS WHAT COUNTS. Prove the row's statement (the work); the ties are given (Qxb6605495aDoorTie.lean); close each card by the builder's one call (the guide's Derived/Test/ToyasCard.lean, 'card_holds'). Laid BY PROGRAM, IN A SANDBOX (cutbox-door.mjs). By AI agents, Wed Nov 11 2026. No macro, syntax, notation, axiom, sorry.
-/
import Derived.Test.Qxb6605495aDoorRows
import GoSem.ClaimSeven
namespace Go.Proofs.Qxb6605495aDoor
namespace Rows

/-- THE TIED CARD OF 'zzlaws_pkg_objkey_b1.FnDateExact'. -/
def fnDateExactCard : Claim7 := { stood := { row := fnDateExactRow, standIns := [], harness := (true, "78a9a35c444b0709af5268562a8e0272886b71ba458120281052405df24ed593"), looks := false }, kinds := [], alts := [], laidByText := true, laidKinds := [.data, .pinned], laidTests := true, laidLooks := .later }
def FnDateExactCardSaid : Prop := Claim7.holds Tryd.pinned (.plain (OpenSpec.ofChange fnDateExactSpec)) fnDateExactCard

/-- THE TIED CARD OF 'zzlaws_pkg_objkey_b1.FnDateOfBuiltGroup'. -/
def fnDateOfBuiltGroupCard : Claim7 := { stood := { row := fnDateOfBuiltGroupRow, standIns := [], harness := (true, "78a9a35c444b0709af5268562a8e0272886b71ba458120281052405df24ed593"), looks := false }, kinds := [], alts := [], laidByText := true, laidKinds := [.data, .pinned], laidTests := true, laidLooks := .later }
def FnDateOfBuiltGroupCardSaid : Prop := Claim7.holds Tryd.pinned (.plain (OpenSpec.ofChange fnDateOfBuiltGroupSpec)) fnDateOfBuiltGroupCard
end Rows
end Go.Proofs.Qxb6605495aDoor
