/- fmt.Errorf at the one format that standardTree has: an error that is not nil. By an AI agent. -/
import Derived.Test.YbulkbqdmFmtRows
import Derived.WalkKit
import Derived.WalkLawsBesides
import Derived.WalkSpells
import Derived.Stop.CallBack
import Derived.Stop.IfaceNil
import GoSem.ClaimData
namespace Go.Proofs.YbulkbqdmFmt
open Go.RowKit Go.Extern.Stop Go.Stop Go.Extern

def Ybaf.shape3 : List UInt8 := [5, 3, 0, 0, 0, 0, 0, 0, 0, 105, 110, 116]
theorem Ybaf.call12 (args : Array Value) (w : World) : (callFunc 12 args).run Ybaf.prog w = ((FmtStop.errorf #[9, 39] #[27] args).run Ybaf.prog w).andThen fun v w' => .ok (.value v) w' :=
  run_callFunc_extern Ybaf.func12 (by kernel_rfl) (by kernel_rfl) (by kernel_rfl) (by kernel_rfl) args w
theorem Ybaf.guard (name : String) (w : World) : (FmtStop.guard name).run Ybaf.prog w = .ok () w := by kernel_rfl
theorem Ybaf.fmt0 : FmtStop.printed? ⟨#[110, 111, 32, 99, 111, 109, 112, 108, 101, 116, 101, 32, 116, 114, 101, 101, 32, 111, 102, 32, 111, 100, 100, 32, 100, 101, 103, 114, 101, 101, 32, 102, 111, 114, 32, 37, 100, 32, 109, 101, 109, 98, 101, 114, 115]⟩ 1 = some [(0, 100, false)] := by kernel_rfl
theorem Ybaf.fmt0r (w : World) : (FmtDoors.printed ⟨#[110, 111, 32, 99, 111, 109, 112, 108, 101, 116, 101, 32, 116, 114, 101, 101, 32, 111, 102, 32, 111, 100, 100, 32, 100, 101, 103, 114, 101, 101, 32, 102, 111, 114, 32, 37, 100, 32, 109, 101, 109, 98, 101, 114, 115]⟩ 1).run Ybaf.prog w = .ok [(0, 100, false)] w := by kernel_rfl
theorem Ybaf.op3_100 (name : String) (x : Int) (w : World) : (FmtStop.operand name false 100 false (.iface 3 (.int .i64 x))).run Ybaf.prog w = .ok (Ybaf.shape3, Go.Extern.Stop.digits 8 (x % 2 ^ 64).toNat) w := by kernel_rfl
theorem Ybaf.op3_100w (name : String) (x : Int) (w : World) : (FmtStop.operand name true 100 false (.iface 3 (.int .i64 x))).run Ybaf.prog w = .ok (Ybaf.shape3, Go.Extern.Stop.digits 8 (x % 2 ^ 64).toNat) w := by kernel_rfl
theorem Ybaf.ptr42 (w : World) : (FmtStop.ptrTo "errors.errorString").run Ybaf.prog w = .ok 42 w := by kernel_rfl
theorem Ybaf.elem42 (w : World) : (elemOf 42).run Ybaf.prog w = .ok 44 w := by kernel_rfl
theorem Ybaf.isError42 (w : World) : (FmtDoors.textMethod 42 "Error").run Ybaf.prog w = .ok true w := by kernel_rfl

set_option maxHeartbeats 400000 in
theorem errorf_any (F : Interp) (b : Nat) (n : Int) (w : World) (hF : F.answers w.tape) (hc : w.cell? ⟨b, 0, none⟩ = some (.iface 3 (.int .i64 n))) :
    Calls Ybaf.prog 10 #[.string ⟨#[110, 111, 32, 99, 111, 109, 112, 108, 101, 116, 101, 32, 116, 114, 101, 101, 32, 111, 102, 32, 111, 100, 100, 32, 100, 101, 103, 114, 101, 101, 32, 102, 111, 114, 32, 37, 100, 32, 109, 101, 109, 98, 101, 114, 115]⟩, .slice (some ⟨b, 0, none⟩) 1 1] w fun e w' => (∃ a, e = .returned (.iface 42 (.pointer (some a)))) ∧ Below w.heap.size w w' := by
  have hF' := answers_open hF
  have h1 := Ybaf.call12
  have h2 := Ybaf.guard
  have h3 := Ybaf.fmt0
  have h4 := Ybaf.fmt0r
  have h5 := Ybaf.op3_100
  have h6 := Ybaf.op3_100w
  have h7 := Ybaf.ptr42
  have h8 := Ybaf.elem42
  have h9 := Ybaf.isError42
  go_enter Ybaf.func10, Ybaf.ntmps10
  go_wp2
  go_ret
  exact ⟨⟨_, rfl⟩, ((Below.refl _ _).alloc (Nat.le_refl _) _).drew⟩
end Go.Proofs.YbulkbqdmFmt
