/-
  DERIVED. GIVEN WITH THE SEED: THE CARDS: each row of YbulkcryFmtRows.lean that lists a variable, with what it lists TIED to the program's text (the seventh form; the later family's looks); each row that meets fmt, with fmt's text TOLD by the authors' own Lean function (tested against real Go, not proved from fmt's source: count such statements apart). THE CARD IS WHAT COUNTS. Prove the row's statement (the work); the ties are given (YbulkcryFmtTie.lean); close each card by the builder's one call (the guide's Derived/Test/ToyasCard.lean, 'card_holds'). Laid BY PROGRAM, IN A SANDBOX (cutbox-door.mjs). By AI agents, Wed Nov 11 2026. No macro, syntax, notation, axiom, sorry.
-/
import Derived.Test.YbulkcryFmtRows
import GoSem.ClaimSeven
namespace Go.Proofs.YbulkcryFmt
namespace Rows

/-- THE TOLD CARD OF 'syntax.LawS0180AModel'. -/
def lawS0180AModelCard : Claim7 := { stood := { row := lawS0180AModelRow, standIns := [], harness := (true, "f1f7c0c74b030cb133da29e788b723413f258f2e9869ff2160fbfc0b29008db5"), looks := false }, told := true, goes := false }
def LawS0180AModelToldSaid : Prop := Claim7.holds Ybaf.pinned (.plain (OpenSpec.ofChange lawS0180AModelSpec)) lawS0180AModelCard
/-- ITS FALSE NEIGHBOUR. Refute it at one input. -/
def LawS0180AModelToldWrongFalsely : Prop := Claim7.holds Ybaf.pinned (.plain (OpenSpec.ofChange lawS0180AModelWrong)) lawS0180AModelCard

/-- THE TOLD CARD OF 'syntax.LawS0180ARaw'. -/
def lawS0180ARawCard : Claim7 := { stood := { row := lawS0180ARawRow, standIns := [], harness := (true, "f1f7c0c74b030cb133da29e788b723413f258f2e9869ff2160fbfc0b29008db5"), looks := false }, told := true, goes := false }
def LawS0180ARawToldSaid : Prop := Claim7.holds Ybaf.pinned (.plain (OpenSpec.ofChange lawS0180ARawSpec)) lawS0180ARawCard
/-- ITS FALSE NEIGHBOUR. Refute it at one input. -/
def LawS0180ARawToldWrongFalsely : Prop := Claim7.holds Ybaf.pinned (.plain (OpenSpec.ofChange lawS0180ARawWrong)) lawS0180ARawCard
end Rows
end Go.Proofs.YbulkcryFmt
