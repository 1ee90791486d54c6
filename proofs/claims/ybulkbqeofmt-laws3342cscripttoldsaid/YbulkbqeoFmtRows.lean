/-
  NARROWER THAN 'FOR EVERY INPUT', by the rows' own cells (each row's printed sentence says how): LawS3342CExact: ifaces, laid · LawS3342CScript: ifaces, laid.
  DERIVED. THE GIVEN ROWS OF THIS SEAT. 2 by the template 'for every input the law returns true; each argument reads behind the call as it read before'; 0 by the template 'total and deterministic' (their statements: YbulkbqeoFmtTotals.lean).
  GIVEN WITH THE SEED: the statements are not yours to turn. If you find one false, say at which input.
  Laid BY PROGRAM, IN A SANDBOX (cutbox-rows.mjs): the forced cells as the released guide's own fill.sh prints them over the translation 4e112e0cea655686… (all of the seat's roots in one cut). By AI agents, Wed Nov 11 2026. No macro, syntax, notation, axiom, sorry.
-/
import Derived.Test.YbulkbqeoFmtChecked
import GoSem.Claim
import GoSem.ClaimJoined
import GoSem.ClaimMapViews
import Derived.JoinedTies
import Derived.KernelRfl
namespace Go.Proofs.YbulkbqeoFmt
/- THE CELL 'sum', in the pinned program and in every row, IS THE sha256 OF THE DUMP (.gsa) THAT YbulkbqeoFmtProg.lean LOADS. Nothing in Lean hashes anything: it is a label: what it is worth is what the hold of that sum in a sandbox is worth. -/
noncomputable def Ybaf.pinned : Pinned := { name := "ybulkbqeofmt", sum := "4e112e0cea65568680f92d7dacc00ff389c0125b19976003315da90faff129b3", checked := Ybaf.checked }
namespace Rows
def none {H : Type} : Left H := { results := [], args := [] }

/- WHAT THE LISTED PACKAGE-LEVEL VARIABLES READ AS WHEN THE CALL BEGINS. Each datum BY PROGRAM (the guide's laid-datum.mjs) off the statement by which the dump's own 'gosem.cut.vars' lays the variable. In a bare row this is a premise. The card (YbulkbqeoFmtCards.lean) ties it to the program's text. -/
def laid_example_com_juggler_juggler_internal_sched_errMLimit {H : Type} : DataW H := .iface "*errors.errorString" (.ptr (.agg [.lit (.string [116, 104, 101, 32, 114, 117, 110, 32, 110, 101, 101, 100, 115, 32, 109, 111, 114, 101, 32, 116, 104, 97, 110, 32, 77, 97, 120, 77, 115, 32, 77, 115])]))

/-- 'sched.LawS3342CExact': WHATEVER THE INPUT: true; the input reads as it did. -/
def lawS3342CExactSpec : ChangeSpec := { name := "lawS3342CExact", vars := ["example.com/juggler/juggler/internal/sched.errMLimit"], fn := fun _ => fun
  | [d1, d2, d3, d4, d5, d6, d7, d8, d9, g1] => { results := [.lit (.bool true)], args := [d1, d2, d3, d4, d5, d6, d7, d8, d9], vars := [g1] }
  | _ => none }
def lawS3342CExactRow : OpenClaim := { program := "ybulkbqeofmt", sum := "4e112e0cea65568680f92d7dacc00ff389c0125b19976003315da90faff129b3", func := "example.com/juggler/juggler/internal/sched.LawS3342CExact", spec := "lawS3342CExact", stops := ["fmt.errorf"], inPlace := ["fmt.errorf"], unfollowed := true, recurses := true, named := ["example.com/juggler/juggler/internal/sched.errMLimit"], ifaces := true, apart := false, laid := [("example.com/juggler/juggler/internal/sched.errMLimit", laid_example_com_juggler_juggler_internal_sched_errMLimit)] }
/-- NO THEOREM (fmt's text is open here; it may be false): for the released tool's asking of the row's closed facts alone. THE STATEMENT IS 'LawS3342CExactToldSaid' (YbulkbqeoFmtCards.lean). -/
def LawS3342CExactFormAsk : Prop := lawS3342CExactRow.holds Ybaf.pinned (OpenSpec.ofChange lawS3342CExactSpec)

/-- ITS FALSE NEIGHBOUR: 'it returns false'. Refute it at one input. -/
def lawS3342CExactWrong : ChangeSpec := { name := "lawS3342CExact", vars := ["example.com/juggler/juggler/internal/sched.errMLimit"], fn := fun _ => fun
  | [d1, d2, d3, d4, d5, d6, d7, d8, d9, g1] => { results := [.lit (.bool false)], args := [d1, d2, d3, d4, d5, d6, d7, d8, d9], vars := [g1] }
  | _ => none }
def LawS3342CExactWrongFormAsk : Prop := lawS3342CExactRow.holds Ybaf.pinned (OpenSpec.ofChange lawS3342CExactWrong)

/-- 'sched.LawS3342CScript': WHATEVER THE INPUT: true; the input reads as it did. -/
def lawS3342CScriptSpec : ChangeSpec := { name := "lawS3342CScript", vars := ["example.com/juggler/juggler/internal/sched.errMLimit"], fn := fun _ => fun
  | [d1, d2, g1] => { results := [.lit (.bool true)], args := [d1, d2], vars := [g1] }
  | _ => none }
def lawS3342CScriptRow : OpenClaim := { program := "ybulkbqeofmt", sum := "4e112e0cea65568680f92d7dacc00ff389c0125b19976003315da90faff129b3", func := "example.com/juggler/juggler/internal/sched.LawS3342CScript", spec := "lawS3342CScript", stops := ["fmt.errorf"], inPlace := ["fmt.errorf"], unfollowed := true, recurses := true, named := ["example.com/juggler/juggler/internal/sched.errMLimit"], ifaces := true, apart := false, laid := [("example.com/juggler/juggler/internal/sched.errMLimit", laid_example_com_juggler_juggler_internal_sched_errMLimit)] }
/-- NO THEOREM (fmt's text is open here; it may be false): for the released tool's asking of the row's closed facts alone. THE STATEMENT IS 'LawS3342CScriptToldSaid' (YbulkbqeoFmtCards.lean). -/
def LawS3342CScriptFormAsk : Prop := lawS3342CScriptRow.holds Ybaf.pinned (OpenSpec.ofChange lawS3342CScriptSpec)

/-- ITS FALSE NEIGHBOUR: 'it returns false'. Refute it at one input. -/
def lawS3342CScriptWrong : ChangeSpec := { name := "lawS3342CScript", vars := ["example.com/juggler/juggler/internal/sched.errMLimit"], fn := fun _ => fun
  | [d1, d2, g1] => { results := [.lit (.bool false)], args := [d1, d2], vars := [g1] }
  | _ => none }
def LawS3342CScriptWrongFormAsk : Prop := lawS3342CScriptRow.holds Ybaf.pinned (OpenSpec.ofChange lawS3342CScriptWrong)

end Rows
end Go.Proofs.YbulkbqeoFmt
