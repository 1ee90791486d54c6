/-
  DERIVED. GIVEN WITH THE SEED: THE CARDS: each row of YbulkbqeoFmtRows.lean that lists a variable, with what it lists TIED to the program's text (the seventh form; the later family's looks); each row that meets fmt, with fmt's text TOLD by the authors' own Lean function (tested against real Go, not proved from fmt's source: count such statements apart). THE CARD IS WHAT COUNTS. Prove the row's statement (the work); the ties are given (YbulkbqeoFmtTie.lean); close each card by the builder's one call (the guide's Derived/Test/ToyasCard.lean, 'card_holds'). Laid BY PROGRAM, IN A SANDBOX (cutbox-door.mjs). By AI agents, Wed Nov 11 2026. No macro, syntax, notation, axiom, sorry.
-/
import Derived.Test.YbulkbqeoFmtRows
import GoSem.ClaimSeven
namespace Go.Proofs.YbulkbqeoFmt
namespace Rows

/-- THE TOLD AND TIED CARD OF 'sched.LawS3342CExact'. -/
def lawS3342CExactCard : Claim7 := { stood := { row := lawS3342CExactRow, standIns := [], harness := (true, "51c322c81c8042c08b8172f13ca55cdd12258b4f41e9507f9e6494222c041f98"), looks := false }, told := true, laidByText := true, laidKinds := [.sentinel], laidTests := true, laidLooks := .later, goes := false }
def LawS3342CExactToldSaid : Prop := Claim7.holds Ybaf.pinned (.plain (OpenSpec.ofChange lawS3342CExactSpec)) lawS3342CExactCard
/-- ITS FALSE NEIGHBOUR. Refute it at one input. -/
def LawS3342CExactToldWrongFalsely : Prop := Claim7.holds Ybaf.pinned (.plain (OpenSpec.ofChange lawS3342CExactWrong)) lawS3342CExactCard

/-- THE TOLD AND TIED CARD OF 'sched.LawS3342CScript'. -/
def lawS3342CScriptCard : Claim7 := { stood := { row := lawS3342CScriptRow, standIns := [], harness := (true, "51c322c81c8042c08b8172f13ca55cdd12258b4f41e9507f9e6494222c041f98"), looks := false }, told := true, laidByText := true, laidKinds := [.sentinel], laidTests := true, laidLooks := .later, goes := false }
def LawS3342CScriptToldSaid : Prop := Claim7.holds Ybaf.pinned (.plain (OpenSpec.ofChange lawS3342CScriptSpec)) lawS3342CScriptCard
/-- ITS FALSE NEIGHBOUR. Refute it at one input. -/
def LawS3342CScriptToldWrongFalsely : Prop := Claim7.holds Ybaf.pinned (.plain (OpenSpec.ofChange lawS3342CScriptWrong)) lawS3342CScriptCard
end Rows
end Go.Proofs.YbulkbqeoFmt
