/- The loop of LawS3342CScript, taken out of the translation; its relation. By an AI agent. -/
import Derived.Test.YbulkbqeoFmtScr
import Derived.Deep.DeepCutAuto
namespace Go.Proofs.YbulkbqeoFmt
open Go Go.RowKit
def firstLoop : Code → Option Code
  | .loop c => some c
  | .seq a b => match firstLoop a with
    | some c => some c
    | none => firstLoop b
  | .block _ c => firstLoop c
  | .scope c => firstLoop c
  | .cond _ a b => match firstLoop a with
    | some c => some c
    | none => firstLoop b
  | _ => none
def loopOf (f : Func) : Code := (f.body.bind firstLoop).getD .skip
/-- What holds ahead of each round. -/
def Rel (len capv : Nat) (w : World) (R C : Nat) (it rv sv i : Value) (wr : World) : Prop :=
  ∃ (k n : Nat) (m : Int) (xs : List Value) (eb sb rb qb pb : Option Nat) (ss rs : List Addr), i = .int .i64 (k : Int) ∧ k ≤ len ∧ it = .int .i64 m ∧ 0 ≤ m ∧ m ≤ (capv : Int) ∧ n ≤ k ∧ ss.length ≤ k ∧ rs.length ≤ k ∧ Scr w wr w.heap.size R C capv m n xs eb sb rb qb pb ss rs ss rs rv sv
end Go.Proofs.YbulkbqeoFmt
