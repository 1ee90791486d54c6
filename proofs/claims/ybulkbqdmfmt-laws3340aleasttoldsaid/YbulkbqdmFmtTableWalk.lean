/- LawS3340ATable, walked. By an AI agent. -/
import Derived.Test.YbulkbqdmFmtStandard
import Derived.Test.YbulkbqdmFmtModel
namespace Go.Proofs.YbulkbqdmFmt
open Go.RowKit Go.Maps Go.Extern.Stop Go.Stop Go.Extern

theorem Dg_has (d : Int) : has (Dg d) (.string [100, 101, 103, 114, 101, 101]) = true := has_put_same isMap_empty (by simp [WideAt.IsKeyLit]) _
theorem Dg_atKey (d : Int) (z : DataW Unit) : (Dg d).atKey (.string [100, 101, 103, 114, 101, 101]) z = .lit (.int .i64 d) := atKey_put_same isMap_empty (by simp [WideAt.IsKeyLit]) _ _
theorem Dg_size (d : Int) : Maps.size (Dg d) = 1 := rfl

theorem look_ok {W : World} {m : Nat} {d : Int} (h : W.ownsMap Ybaf.prog 9 (plainElem Ybaf.prog 3) m 1 (Dg d)) :
    (Instr.lookup 22 (.map (some m)) (.string ⟨#[100, 101, 103, 114, 101, 101]⟩) true).run Ybaf.prog W = .ok (.tuple #[.int .i64 d, .bool true]) W := by
  obtain ⟨v, ps, hrun, hv⟩ := h.look_ok law9 Ybaf.underlying22 (zero3 W) (plainElem_int (H := Unit) Ybaf.underlying3 (by decide)) hkeyD
  rw [Dg_atKey] at hv
  obtain ⟨c, rfl, hc, _⟩ := plainElem_int_inv Ybaf.underlying3 hv
  rw [hrun, Dg_has]
  simp only [Prod.mk.injEq] at hc
  injection hc.1 with e
  injection e with _ e
  rw [e]

theorem look_plain {W : World} {m : Nat} {d : Int} (h : W.ownsMap Ybaf.prog 9 (plainElem Ybaf.prog 3) m 1 (Dg d)) :
    (Instr.lookup 22 (.map (some m)) (.string ⟨#[100, 101, 103, 114, 101, 101]⟩) false).run Ybaf.prog W = .ok (.int .i64 d) W := by
  obtain ⟨c, hrun, hat, _⟩ := h.lookup_int law9 Ybaf.underlying22 Ybaf.underlying3 (zero3 W) hkeyD
  rw [Dg_atKey] at hat
  injection hat with e
  injection e with _ e
  rw [hrun, e]

theorem len_one {W : World} {m : Nat} {d : Int} (h : W.ownsMap Ybaf.prog 9 (plainElem Ybaf.prog 3) m 1 (Dg d)) (ty : TypeId) :
    (Builtin.len_ #[22] ty #[.map (some m)]).run Ybaf.prog W = .ok (.int .i64 1) W := h.len Ybaf.underlying22 ty

set_option maxRecDepth 100000 in
set_option maxHeartbeats 1000000 in
theorem table_walk (F : Interp) (n : Int) (w : World) (hF : F.answers w.tape) :
    Calls Ybaf.prog 3 #[.int .i64 n] w fun e w' => e = .returned (.bool true) ∧ Below w.heap.size w w' := by
  by_cases hlo : n < -1024
  · go_enter Ybaf.func3, Ybaf.ntmps3
    go_wp2
    go_ret
    exact ⟨rfl, Below.refl _ _⟩
  by_cases hhi : 1024 < n
  · go_enter Ybaf.func3, Ybaf.ntmps3
    go_wp2
    go_ret
    exact ⟨rfl, Below.refl _ _⟩
  have q22 : ∀ (w : World) (r : Option Nat), (binOp .eql 22 (.map r) (.map none)).run Ybaf.prog w = .ok (.bool r.isNone) w := fun w r => run_eql_map_nil w _ _ _ r Ybaf.underlying22
  have q23 : ∀ (w : World) (r : Option Nat), (binOp .eql 23 (.map r) (.map none)).run Ybaf.prog w = .ok (.bool r.isNone) w := fun w r => run_eql_map_nil w _ _ _ r Ybaf.underlying23
  go_enter Ybaf.func3, Ybaf.ntmps3
  go_wp2_with fail
  refine (standard_any F n w hF (by omega) (by omega)).mono ?_
  rintro e w1 ⟨hb, ⟨d, m, hl, rfl, hown⟩ | ⟨a, hl, rfl⟩⟩
  · rw [least_table] at hl
    have hlk := fun o => look_ok (hown.alloc o)
    have hln := fun o ty => len_one (hown.alloc o) ty
    have HL : Hid (table n = some d) := hl
    clear hl hown
    go_wp2_with (go_at_call 6; refine (model_any n _ (by omega) (by omega)).mono ?_; rw [HL.out]; rintro e w2 ⟨rfl, rfl⟩)
    go_ret
    exact ⟨rfl, hb.alloc hb.size _⟩
  · rw [least_table] at hl
    have HL : Hid (table n = none) := hl
    clear hl
    go_wp2_with (go_at_call 6; refine (model_any n _ (by omega) (by omega)).mono ?_; rw [HL.out]; rintro e w2 ⟨rfl, rfl⟩)
    go_ret
    exact ⟨rfl, hb.alloc hb.size _⟩
end Go.Proofs.YbulkbqdmFmt
