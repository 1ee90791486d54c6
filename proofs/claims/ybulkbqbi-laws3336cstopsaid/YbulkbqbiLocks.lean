/- sync.Mutex in one goroutine: Lock, Unlock and TryLock of a lock that is free, and Unlock of one that is held. By an AI agent. -/
import Derived.Test.YbulkbqbiRows
import Derived.WalkKit
import Derived.WalkLawsBesides
import Derived.Laws.LoneSync
namespace Go.Proofs.Ybulkbqbi
open Go.RowKit

theorem Yba.disable21 (w : World) : (callFunc 21 #[]).run Yba.prog w = .ok (.value (.tuple #[])) w := run_call_mark0 Yba.func21 (by kernel_rfl) (by kernel_rfl) (by kernel_rfl) .disable (by kernel_rfl) w
theorem Yba.enable22 (w : World) : (callFunc 22 #[]).run Yba.prog w = .ok (.value (.tuple #[])) w := run_call_mark0 Yba.func22 (by kernel_rfl) (by kernel_rfl) (by kernel_rfl) .enable (by kernel_rfl) w
theorem Yba.acquire24 (a : Addr) (w : World) : (callFunc 24 #[.pointer (some a)]).run Yba.prog w = .ok (.value (.tuple #[])) w := run_call_marked Yba.func24 (by kernel_rfl) (by kernel_rfl) (by kernel_rfl) .acquire (by kernel_rfl) a w
theorem Yba.merge25 (a : Addr) (w : World) : (callFunc 25 #[.pointer (some a)]).run Yba.prog w = .ok (.value (.tuple #[])) w := run_call_marked Yba.func25 (by kernel_rfl) (by kernel_rfl) (by kernel_rfl) .releaseMerge (by kernel_rfl) a w
theorem Yba.cas23 {a : Addr} {x y : Int} {w : World} (hc : w.cell? a = some (.int .i32 x)) (hz : w.frozen? a = false) :
    (callFunc 23 #[.pointer (some a), .int .i32 x, .int .i32 y]).run Yba.prog w = .ok (.value (.bool true)) (w.setCell a (.int .i32 y)) :=
  run_call_cas_hit Yba.func23 (by kernel_rfl) (by kernel_rfl) (by kernel_rfl) .i32 (by kernel_rfl) hc hz
theorem Yba.add26 {a : Addr} {w : World} (hc : w.cell? a = some (.int .i32 1)) (hz : w.frozen? a = false) :
    (callFunc 26 #[.pointer (some a), .int .i32 (-1)]).run Yba.prog w = .ok (.value (.int .i32 0)) (w.setCell a (.int .i32 0)) :=
  run_call_add Yba.func26 (by kernel_rfl) (by kernel_rfl) (by kernel_rfl) .i32 (by kernel_rfl) hc hz (by simp [go_sem]; decide)
theorem Yba.conv99 {a : Addr} {v : Value} {w : World} (hc : w.cell? a = some v) : (convert 99 103 (.pointer (some a))).run Yba.prog w = .ok (.pointer (some a)) w :=
  run_convert_to_unsafe Yba.underlying99 Yba.underlying103 (by kernel_rfl) hc

set_option maxRecDepth 100000 in
set_option maxHeartbeats 800000 in
theorem lock_free (b o : Nat) (w : World) (hc : w.cell? ⟨b, o, none⟩ = some (.int .i32 0)) (hz : w.frozen? ⟨b, o, none⟩ = false) :
    Calls Yba.prog 17 #[.pointer (some ⟨b, o, none⟩)] w fun e w' => e = .returned (.tuple #[]) ∧ w' = w.setCell ⟨b, o, none⟩ (.int .i32 1) := by
  have h1 := Yba.disable21
  have h2 := Yba.enable22
  have h3 := Yba.acquire24
  have h4 := Yba.cas23 (y := 1) hc hz
  have h5 := Yba.conv99 (World.cell?_setCell_same w ⟨b, o, none⟩ (.int .i32 1) hc)
  go_enter Yba.func17, Yba.ntmps17
  go_wp2
  first | go_end0 | refine bodyPost_ret (results_none rfl _ _ _) rfl ?_
  go_wp2
  go_end0
  exact ⟨rfl, rfl⟩

set_option maxRecDepth 100000 in
set_option maxHeartbeats 800000 in
theorem unlock_held (b o : Nat) (w : World) (hc : w.cell? ⟨b, o, none⟩ = some (.int .i32 1)) (hz : w.frozen? ⟨b, o, none⟩ = false) :
    Calls Yba.prog 13 #[.pointer (some ⟨b, o, none⟩)] w fun e w' => e = .returned (.tuple #[]) ∧ w' = w.setCell ⟨b, o, none⟩ (.int .i32 0) := by
  have h1 := Yba.disable21
  have h2 := Yba.enable22
  have h3 := Yba.merge25
  have h4 := Yba.add26 hc hz
  have h5 := Yba.conv99 hc
  go_enter Yba.func13, Yba.ntmps13
  go_wp2
  first | go_end0 | refine bodyPost_ret (results_none rfl _ _ _) rfl ?_
  go_wp2
  go_end0
  exact ⟨rfl, rfl⟩

set_option maxRecDepth 100000 in
set_option maxHeartbeats 800000 in
theorem trylock_free (b o : Nat) (w : World) (hc : w.cell? ⟨b, o, none⟩ = some (.int .i32 0)) (hz : w.frozen? ⟨b, o, none⟩ = false) :
    Calls Yba.prog 12 #[.pointer (some ⟨b, o, none⟩)] w fun e w' => e = .returned (.bool true) ∧ w' = w.setCell ⟨b, o, none⟩ (.int .i32 1) := by
  have h1 := Yba.disable21
  have h2 := Yba.enable22
  have h3 := Yba.acquire24
  have h4 := Yba.cas23 (y := 1) hc hz
  have h5 := Yba.conv99 (World.cell?_setCell_same w ⟨b, o, none⟩ (.int .i32 1) hc)
  go_enter Yba.func12, Yba.ntmps12
  go_wp2
  go_ret
  exact ⟨rfl, rfl⟩
end Go.Proofs.Ybulkbqbi
