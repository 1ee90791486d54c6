/- A start that fits: errMLimit as the program's text lays it. After the guide's PortLaid. By an AI agent. -/
import Derived.Test.YbulkbqeoFmtRows
import Derived.Lib.LaidIn
import Derived.ProofKit
import Derived.Stop.Joined
namespace Go.Proofs.YbulkbqeoFmt
open Go

def laidOf (P : Program) (os : Os) : World :=
  let N := (World.settled P os).heap.size
  let w0 := World.holding P os ⟨#[.cells #[.string ⟨#[116, 104, 101, 32, 114, 117, 110, 32, 110, 101, 101, 100, 115, 32, 109, 111, 114, 101, 32, 116, 104, 97, 110, 32, 77, 97, 120, 77, 115, 32, 77, 115]⟩] 110], #[], []⟩
  { w0 with heap := w0.heap.modify 0 fun
    | .cells _ t frozen => .cells #[.iface 108 (.pointer (some ⟨N, 0, none⟩))] t frozen
    | o => o }
set_option maxRecDepth 1000000 in
theorem laid_in (os : Os) (args : Array Value) : LaidIn Ybaf.prog ((laidOf Ybaf.prog os).forCall (fun _ _ => 0) ⟨#[], args, []⟩).memory Rows.lawS3342CExactRow.laid [0, (World.settled Ybaf.prog default).heap.size] :=
  LaidIn.of_run [0, (World.settled Ybaf.prog default).heap.size] 10 (by kernel_rfl) (by kernel_rfl) (by kernel_rfl) (by kernel_rfl)
theorem laid_met (os : Os) (args : Array Value) : laidMet Ybaf.prog Rows.lawS3342CExactRow.laid ((laidOf Ybaf.prog os).forCall (fun _ _ => 0) ⟨#[], args, []⟩).memory :=
  (laid_in os args).met
end Go.Proofs.YbulkbqeoFmt
