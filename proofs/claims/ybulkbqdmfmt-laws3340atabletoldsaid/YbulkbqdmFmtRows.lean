/-
  No cell of these rows narrows 'for every input' (looked for: loops, veiled, ifaces, maps, wideKeys, modest, calm, conditions, laid).
  DERIVED. THE GIVEN ROWS OF THIS SEAT. 2 by the template 'for every input the law returns true; each argument reads behind the call as it read before'; 0 by the template 'total and deterministic' (their statements: YbulkbqdmFmtTotals.lean).
  GIVEN WITH THE SEED: the statements are not yours to turn. If you find one false, say at which input.
  Laid BY PROGRAM, IN A SANDBOX (cutbox-rows.mjs): the forced cells as the released guide's own fill.sh prints them over the translation e73205c344cebd29… (all of the seat's roots in one cut). By AI agents, Wed Nov 11 2026. No macro, syntax, notation, axiom, sorry.
-/
import Derived.Test.YbulkbqdmFmtChecked
import GoSem.Claim
import GoSem.ClaimJoined
import GoSem.ClaimMapViews
import Derived.JoinedTies
import Derived.KernelRfl
namespace Go.Proofs.YbulkbqdmFmt
/- THE CELL 'sum', in the pinned program and in every row, IS THE sha256 OF THE DUMP (.gsa) THAT YbulkbqdmFmtProg.lean LOADS. Nothing in Lean hashes anything: it is a label: what it is worth is what the hold of that sum in a sandbox is worth. -/
noncomputable def Ybaf.pinned : Pinned := { name := "ybulkbqdmfmt", sum := "e73205c344cebd296f78372b285636049a11297c518814b359ba3e59f6c817d1", checked := Ybaf.checked }
namespace Rows
def none {H : Type} : Left H := { results := [], args := [] }

/-- 'coterie.LawS3340ATable': WHATEVER THE INPUT: true; the input reads as it did. -/
def lawS3340ATableSpec : ChangeSpec := { name := "lawS3340ATable", fn := fun _ => fun
  | [d] => { results := [.lit (.bool true)], args := [d] }
  | _ => none }
def lawS3340ATableRow : OpenClaim := { program := "ybulkbqdmfmt", sum := "e73205c344cebd296f78372b285636049a11297c518814b359ba3e59f6c817d1", func := "example.com/coterie/coterie.LawS3340ATable", spec := "lawS3340ATable", stops := ["fmt.errorf"], inPlace := ["fmt.errorf"], apart := false }
/-- NO THEOREM (fmt's text is open here; it may be false): for the released tool's asking of the row's closed facts alone. THE STATEMENT IS 'LawS3340ATableToldSaid' (YbulkbqdmFmtCards.lean). -/
def LawS3340ATableFormAsk : Prop := lawS3340ATableRow.holds Ybaf.pinned (OpenSpec.ofChange lawS3340ATableSpec)

/-- ITS FALSE NEIGHBOUR: 'it returns false'. Refute it at one input. -/
def lawS3340ATableWrong : ChangeSpec := { name := "lawS3340ATable", fn := fun _ => fun
  | [d] => { results := [.lit (.bool false)], args := [d] }
  | _ => none }
def LawS3340ATableWrongFormAsk : Prop := lawS3340ATableRow.holds Ybaf.pinned (OpenSpec.ofChange lawS3340ATableWrong)

/-- 'coterie.LawS3340ALeast': WHATEVER THE INPUT: true; the input reads as it did. -/
def lawS3340ALeastSpec : ChangeSpec := { name := "lawS3340ALeast", fn := fun _ => fun
  | [d] => { results := [.lit (.bool true)], args := [d] }
  | _ => none }
def lawS3340ALeastRow : OpenClaim := { program := "ybulkbqdmfmt", sum := "e73205c344cebd296f78372b285636049a11297c518814b359ba3e59f6c817d1", func := "example.com/coterie/coterie.LawS3340ALeast", spec := "lawS3340ALeast", stops := ["fmt.errorf"], inPlace := ["fmt.errorf"], apart := false }
/-- NO THEOREM (fmt's text is open here; it may be false): for the released tool's asking of the row's closed facts alone. THE STATEMENT IS 'LawS3340ALeastToldSaid' (YbulkbqdmFmtCards.lean). -/
def LawS3340ALeastFormAsk : Prop := lawS3340ALeastRow.holds Ybaf.pinned (OpenSpec.ofChange lawS3340ALeastSpec)

/-- ITS FALSE NEIGHBOUR: 'it returns false'. Refute it at one input. -/
def lawS3340ALeastWrong : ChangeSpec := { name := "lawS3340ALeast", fn := fun _ => fun
  | [d] => { results := [.lit (.bool false)], args := [d] }
  | _ => none }
def LawS3340ALeastWrongFormAsk : Prop := lawS3340ALeastRow.holds Ybaf.pinned (OpenSpec.ofChange lawS3340ALeastWrong)

end Rows
end Go.Proofs.YbulkbqdmFmt
