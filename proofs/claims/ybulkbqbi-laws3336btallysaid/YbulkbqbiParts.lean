/- The plain facts on the map of drops (no Go in sight), and the contracts of the atomic cells and of Drops. By an AI agent. -/
import Derived.Test.YbulkbqbiRows
import Derived.WalkKit
import Derived.WalkLawsBesides
import Derived.Laws.LoneSync
import Derived.Maps.OwnSet
namespace Go.Proofs.Ybulkbqbi
open Go.RowKit Go.Maps

/-- The map that Drops makes, after k rounds, over counters d. -/
def Dm (d : Nat → Int) : Nat → DataW Unit
  | 0 => .map []
  | k + 1 => (Dm d k).put (.int .u8 k) (.lit (.int .u64 (d k)))

theorem Dm_isMap (d : Nat → Int) : ∀ k, IsMap (Dm d k)
  | 0 => isMap_empty
  | k + 1 => (Dm_isMap d k).put _ _

theorem key_ne {i k : Nat} (h : i ≠ k) : (Lit.int .u8 (i : Int)) ≠ Lit.int .u8 (k : Int) := by
  intro e
  injection e with _ e2
  exact h (by omega)

theorem Dm_atKey (d : Nat → Int) (z : DataW Unit) : ∀ k i, i < k → (Dm d k).atKey (.int .u8 (i : Int)) z = .lit (.int .u64 (d i))
  | 0, _, h => by omega
  | k + 1, i, h => by
    unfold Dm
    by_cases e : i = k
    · subst e
      exact atKey_put_same (Dm_isMap d i) (by simp [WideAt.IsKeyLit]) _ _
    · rw [atKey_put_other (key_ne e)]
      exact Dm_atKey d z k i (by omega)

theorem Dm_has (d : Nat → Int) : ∀ k i : Nat, has (Dm d k) (.int .u8 (i : Int)) = decide (i < k)
  | 0, i => by simp [Dm, has]
  | k + 1, i => by
    unfold Dm
    by_cases e : i = k
    · subst e
      rw [has_put_same (Dm_isMap d i) (by simp [WideAt.IsKeyLit])]
      simp
    · rw [has_put_other (key_ne e), Dm_has d k i]
      simp
      omega

theorem Dm_tidy (d : Nat → Int) : ∀ k, Tidy (Dm d k)
  | 0 => tidy_empty
  | k + 1 => (Dm_tidy d k).put (by simp [WideAt.IsKeyLit]) _

theorem Dm_size (d : Nat → Int) : ∀ k, size (Dm d k) = k
  | 0 => rfl
  | k + 1 => by
    unfold Dm
    rw [size_put (Dm_tidy d k), Dm_has d k k, Dm_size d k]
    simp

theorem law79 : Keyed Yba.prog 79 := int_keyed Yba.underlying79
theorem zero22 (w : World) : (zeroValue 22).run Yba.prog w = .ok (.int .u64 0) w := by kernel_rfl

/-! ### the atomic cells -/
theorem Yba.store14 {a : Addr} {y : Int} {u : Value} {w : World} (hc : w.cell? a = some u) (hz : w.frozen? a = false) :
    (callFunc 14 #[.pointer (some a), .int .u64 y]).run Yba.prog w = .ok (.value (.tuple #[])) (w.setCell a (.int .u64 y)) :=
  run_call_store Yba.func14 (by kernel_rfl) (by kernel_rfl) (by kernel_rfl) (by kernel_rfl) hc hz
theorem Yba.load15 {a : Addr} {x : Int} {w : World} (hc : w.cell? a = some (.int .u64 x)) :
    (callFunc 15 #[.pointer (some a)]).run Yba.prog w = .ok (.value (.int .u64 x)) w :=
  run_call_load Yba.func15 (by kernel_rfl) (by kernel_rfl) (by kernel_rfl) .u64 (by kernel_rfl) hc
theorem Yba.add16 {a : Addr} {x y s : Int} {w : World} (hc : w.cell? a = some (.int .u64 x)) (hz : w.frozen? a = false)
    (hs : (Op.intArith .add .u64 x y).run Yba.prog w = .ok (.int .u64 s) w) :
    (callFunc 16 #[.pointer (some a), .int .u64 y]).run Yba.prog w = .ok (.value (.int .u64 s)) (w.setCell a (.int .u64 s)) :=
  run_call_add Yba.func16 (by kernel_rfl) (by kernel_rfl) (by kernel_rfl) .u64 (by kernel_rfl) hc hz hs

theorem store_any (b o : Nat) (y : Int) (u : Value) (w : World) (hc : w.cell? ⟨b, o, none⟩ = some u) (hz : w.frozen? ⟨b, o, none⟩ = false) :
    Calls Yba.prog 6 #[.pointer (some ⟨b, o, none⟩), .int .u64 y] w fun e w' => e = .returned (.tuple #[]) ∧ w' = w.setCell ⟨b, o, none⟩ (.int .u64 y) := by
  have hs := fun y => Yba.store14 (y := y) hc hz
  go_enter Yba.func6, Yba.ntmps6
  go_wp2
  go_end0
  exact ⟨rfl, rfl⟩

theorem load_any (b o : Nat) (x : Int) (w : World) (hc : w.cell? ⟨b, o, none⟩ = some (.int .u64 x)) :
    Calls Yba.prog 8 #[.pointer (some ⟨b, o, none⟩)] w fun e w' => e = .returned (.int .u64 x) ∧ w' = w := by
  have hs := Yba.load15 hc
  go_enter Yba.func8, Yba.ntmps8
  go_wp2
  go_ret
  exact ⟨rfl, rfl⟩

theorem add_any (b o : Nat) (x : Int) (w : World) (hc : w.cell? ⟨b, o, none⟩ = some (.int .u64 x)) (hz : w.frozen? ⟨b, o, none⟩ = false) (h0 : 0 ≤ x) (h1 : x < 5000) :
    Calls Yba.prog 9 #[.pointer (some ⟨b, o, none⟩), .int .u64 1] w fun e w' => e = .returned (.int .u64 (x + 1)) ∧ w' = w.setCell ⟨b, o, none⟩ (.int .u64 (x + 1)) := by
  have hs := Yba.add16 (y := 1) (s := x + 1) hc hz (by
    simp [go_sem, IntKind.wrap_u64]
    omega)
  go_enter Yba.func9, Yba.ntmps9
  go_wp2
  go_ret
  exact ⟨rfl, rfl⟩
end Go.Proofs.Ybulkbqbi
