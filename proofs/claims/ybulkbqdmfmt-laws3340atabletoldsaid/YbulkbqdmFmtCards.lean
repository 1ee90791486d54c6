/-
  DERIVED. GIVEN WITH THE SEED: THE CARDS: each row of YbulkbqdmFmtRows.lean that lists a variable, with what it lists TIED to the program's text (the seventh form; the later family's looks); each row that meets fmt, with fmt's text TOLD by the authors' own Lean function (tested against real Go, not proved from fmt's source: count such statements apart). THE CARD IS WHAT COUNTS. Prove the row's statement (the work); the ties are given (YbulkbqdmFmtTie.lean); close each card by the builder's one call (the guide's Derived/Test/ToyasCard.lean, 'card_holds'). Laid BY PROGRAM, IN A SANDBOX (cutbox-door.mjs). By AI agents, Wed Nov 11 2026. No macro, syntax, notation, axiom, sorry.
-/
import Derived.Test.YbulkbqdmFmtRows
import GoSem.ClaimSeven
namespace Go.Proofs.YbulkbqdmFmt
namespace Rows

/-- THE TOLD CARD OF 'coterie.LawS3340ATable'. -/
def lawS3340ATableCard : Claim7 := { stood := { row := lawS3340ATableRow, standIns := [], harness := (true, "878b32296262a4fda1df280fbbb3563894c2cfce9b7977f380c7952e98172a67"), looks := false }, told := true, goes := false }
def LawS3340ATableToldSaid : Prop := Claim7.holds Ybaf.pinned (.plain (OpenSpec.ofChange lawS3340ATableSpec)) lawS3340ATableCard
/-- ITS FALSE NEIGHBOUR. Refute it at one input. -/
def LawS3340ATableToldWrongFalsely : Prop := Claim7.holds Ybaf.pinned (.plain (OpenSpec.ofChange lawS3340ATableWrong)) lawS3340ATableCard

/-- THE TOLD CARD OF 'coterie.LawS3340ALeast'. -/
def lawS3340ALeastCard : Claim7 := { stood := { row := lawS3340ALeastRow, standIns := [], harness := (true, "878b32296262a4fda1df280fbbb3563894c2cfce9b7977f380c7952e98172a67"), looks := false }, told := true, goes := false }
def LawS3340ALeastToldSaid : Prop := Claim7.holds Ybaf.pinned (.plain (OpenSpec.ofChange lawS3340ALeastSpec)) lawS3340ALeastCard
/-- ITS FALSE NEIGHBOUR. Refute it at one input. -/
def LawS3340ALeastToldWrongFalsely : Prop := Claim7.holds Ybaf.pinned (.plain (OpenSpec.ofChange lawS3340ALeastWrong)) lawS3340ALeastCard
end Rows
end Go.Proofs.YbulkbqdmFmt
