/-
  DERIVED. GIVEN WITH THE SEED: THE CARDS: each row of Qxb6613049aFmtRows.lean that lists a variable, with what it lists TIED to the program's text (the seventh form; the later family's looks); each row that meets fmt, with fmt's text TOLD by the authors' own Lean function (tested against real Go, not proved from fmt's source: count such statements apart). THE CARD IS WHAT COUNTS. Prove the row's statement (the work); the ties are given (Qxb6613049aFmtTie.lean); close each card by the builder's one call (the guide's Derived/Test/ToyasCard.lean, 'card_holds'). Laid BY PROGRAM, IN A SANDBOX (cutbox-door.mjs). By AI agents, Wed Nov 11 2026. No macro, syntax, notation, axiom, sorry.
-/
import Derived.Test.Qxb6613049aFmtRows
import GoSem.ClaimSeven
namespace Go.Proofs.Qxb6613049aFmt
namespace Rows

/-- THE TOLD AND TIED CARD OF 'zzlaws_root_b1.FnChallengesMatchElementModel'. -/
def fnChallengesMatchElementModelCard : Claim7 := { stood := { row := fnChallengesMatchElementModelRow, standIns := [], harness := (true, "403f9e820c4cfaa1af20a2561bbd00ad524b448f508535ce97dc1e902bc39027"), looks := false }, told := true, laidByText := true, laidKinds := [.data, .pinned, .pinned], laidTests := true, laidLooks := .later, goes := false }
def FnChallengesMatchElementModelToldSaid : Prop := Claim7.holds Tryf.pinned (.plain (OpenSpec.ofChange fnChallengesMatchElementModelSpec)) fnChallengesMatchElementModelCard
/-- ITS FALSE NEIGHBOUR. Refute it at one input. -/
def FnChallengesMatchElementModelToldWrongFalsely : Prop := Claim7.holds Tryf.pinned (.plain (OpenSpec.ofChange fnChallengesMatchElementModelWrong)) fnChallengesMatchElementModelCard

/-- THE TOLD AND TIED CARD OF 'zzlaws_root_b1.FnChallengesOfTwoLinesJoinByComma'. -/
def fnChallengesOfTwoLinesJoinByCommaCard : Claim7 := { stood := { row := fnChallengesOfTwoLinesJoinByCommaRow, standIns := [], harness := (true, "403f9e820c4cfaa1af20a2561bbd00ad524b448f508535ce97dc1e902bc39027"), looks := false }, told := true, laidByText := true, laidKinds := [.data, .pinned, .pinned], laidTests := true, laidLooks := .later, goes := false }
def FnChallengesOfTwoLinesJoinByCommaToldSaid : Prop := Claim7.holds Tryf.pinned (.plain (OpenSpec.ofChange fnChallengesOfTwoLinesJoinByCommaSpec)) fnChallengesOfTwoLinesJoinByCommaCard
/-- ITS FALSE NEIGHBOUR. Refute it at one input. -/
def FnChallengesOfTwoLinesJoinByCommaToldWrongFalsely : Prop := Claim7.holds Tryf.pinned (.plain (OpenSpec.ofChange fnChallengesOfTwoLinesJoinByCommaWrong)) fnChallengesOfTwoLinesJoinByCommaCard
end Rows
end Go.Proofs.Qxb6613049aFmt
