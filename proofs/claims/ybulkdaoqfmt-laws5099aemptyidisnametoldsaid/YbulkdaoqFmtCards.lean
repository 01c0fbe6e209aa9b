/-
  DERIVED. GIVEN WITH THE SEED: THE CARDS: each row of YbulkdaoqFmtRows.lean that lists a variable, with what it lists TIED to the program's text (the seventh form; the later family's looks); each row that meets fmt, with fmt's text TOLD by the authors' own Lean function (tested against real Go, not proved from fmt's source: count such statements apart). THE CARD IS WHAT COUNTS. Prove the row's statement (the work); the ties are given (YbulkdaoqFmtTie.lean); close each card by the builder's one call (the guide's Derived/Test/ToyasCard.lean, 'card_holds'). Laid BY PROGRAM, IN A SANDBOX (cutbox-door.mjs). By AI agents, Wed Nov 11 2026. No macro, syntax, notation, axiom, sorry.
-/
import Derived.Test.YbulkdaoqFmtRows
import GoSem.ClaimSeven
namespace Go.Proofs.YbulkdaoqFmt
namespace Rows

/-- THE TOLD CARD OF 'causeline.LawS5099AEmptyIDIsName'. -/
def lawS5099AEmptyIDIsNameCard : Claim7 := { stood := { row := lawS5099AEmptyIDIsNameRow, standIns := [], harness := (true, "aca71989f82986d2f6724d5037751b5b510a36353dbe4cc95085966c64a8e748"), looks := false }, told := true, goes := false }
def LawS5099AEmptyIDIsNameToldSaid : Prop := Claim7.holds Ybaf.pinned (.plain (OpenSpec.ofChange lawS5099AEmptyIDIsNameSpec)) lawS5099AEmptyIDIsNameCard
/-- ITS FALSE NEIGHBOUR. Refute it at one input. -/
def LawS5099AEmptyIDIsNameToldWrongFalsely : Prop := Claim7.holds Ybaf.pinned (.plain (OpenSpec.ofChange lawS5099AEmptyIDIsNameWrong)) lawS5099AEmptyIDIsNameCard
end Rows
end Go.Proofs.YbulkdaoqFmt
