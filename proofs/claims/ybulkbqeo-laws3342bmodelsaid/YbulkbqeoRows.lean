/-
  NARROWER THAN 'FOR EVERY INPUT', by the rows' own cells (each row's printed sentence says how): LawS3342BModel: loops · LawS3342BExitCuts: loops.
  DERIVED. THE GIVEN ROWS OF THIS SEAT. 2 by the template 'for every input the law returns true; each argument reads behind the call as it read before'; 0 by the template 'total and deterministic' (their statements: YbulkbqeoTotals.lean).
  GIVEN WITH THE SEED: the statements are not yours to turn. If you find one false, say at which input.
  Laid BY PROGRAM, IN A SANDBOX (cutbox-rows.mjs): the forced cells as the released guide's own fill.sh prints them over the translation e83b2b3d4d1cad8c… (all of the seat's roots in one cut). By AI agents, Wed Nov 11 2026. No macro, syntax, notation, axiom, sorry.
-/
import Derived.Test.YbulkbqeoChecked
import GoSem.Claim
import GoSem.ClaimJoined
import GoSem.ClaimMapViews
import Derived.JoinedTies
import Derived.KernelRfl
namespace Go.Proofs.Ybulkbqeo
/- THE CELL 'sum', in the pinned program and in every row, IS THE sha256 OF THE DUMP (.gsa) THAT YbulkbqeoProg.lean LOADS. Nothing in Lean hashes anything: it is a label: what it is worth is what the hold of that sum in a sandbox is worth. -/
noncomputable def Yba.pinned : Pinned := { name := "ybulkbqeo", sum := "e83b2b3d4d1cad8cf9f6be06efd0a5d938614ba33e7f9921e0e53ca29a7fe9c7", checked := Yba.checked }
namespace Rows
def none {H : Type} : Left H := { results := [], args := [] }

/-- 'sched.LawS3342BModel': WHATEVER THE INPUT: true; the input reads as it did. -/
def lawS3342BModelSpec : ChangeSpec := { name := "lawS3342BModel", fn := fun _ => fun
  | [d] => { results := [.lit (.bool true)], args := [d] }
  | _ => none }
def lawS3342BModelRow : OpenClaim := { program := "ybulkbqeo", sum := "e83b2b3d4d1cad8cf9f6be06efd0a5d938614ba33e7f9921e0e53ca29a7fe9c7", func := "example.com/juggler/juggler/internal/sched.LawS3342BModel", spec := "lawS3342BModel", recurses := true, loops := true, apart := false }
def LawS3342BModelSaid : Prop := lawS3342BModelRow.holds Yba.pinned (OpenSpec.ofChange lawS3342BModelSpec)

/-- ITS FALSE NEIGHBOUR: 'it returns false'. Refute it at one input. -/
def lawS3342BModelWrong : ChangeSpec := { name := "lawS3342BModel", fn := fun _ => fun
  | [d] => { results := [.lit (.bool false)], args := [d] }
  | _ => none }
def LawS3342BModelWrongFalsely : Prop := lawS3342BModelRow.holds Yba.pinned (OpenSpec.ofChange lawS3342BModelWrong)

/-- 'sched.LawS3342BExitCuts': WHATEVER THE INPUT: true; the input reads as it did. -/
def lawS3342BExitCutsSpec : ChangeSpec := { name := "lawS3342BExitCuts", fn := fun _ => fun
  | [d1, d2] => { results := [.lit (.bool true)], args := [d1, d2] }
  | _ => none }
def lawS3342BExitCutsRow : OpenClaim := { program := "ybulkbqeo", sum := "e83b2b3d4d1cad8cf9f6be06efd0a5d938614ba33e7f9921e0e53ca29a7fe9c7", func := "example.com/juggler/juggler/internal/sched.LawS3342BExitCuts", spec := "lawS3342BExitCuts", recurses := true, loops := true, apart := false }
def LawS3342BExitCutsSaid : Prop := lawS3342BExitCutsRow.holds Yba.pinned (OpenSpec.ofChange lawS3342BExitCutsSpec)

/-- ITS FALSE NEIGHBOUR: 'it returns false'. Refute it at one input. -/
def lawS3342BExitCutsWrong : ChangeSpec := { name := "lawS3342BExitCuts", fn := fun _ => fun
  | [d1, d2] => { results := [.lit (.bool false)], args := [d1, d2] }
  | _ => none }
def LawS3342BExitCutsWrongFalsely : Prop := lawS3342BExitCutsRow.holds Yba.pinned (OpenSpec.ofChange lawS3342BExitCutsWrong)

end Rows
end Go.Proofs.Ybulkbqeo
