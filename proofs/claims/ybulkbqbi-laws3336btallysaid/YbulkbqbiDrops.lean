/- The contract of (*Node).Drops. By an AI agent. -/
import Derived.Test.YbulkbqbiParts
namespace Go.Proofs.Ybulkbqbi
open Go.RowKit Go.Maps

theorem Yba.makeMap81 (w : World) : (Instr.makeMap 81 (some (.int .u8 10))).run Yba.prog w = .ok (.map (some w.heap.size)) (w.alloc (.map #[] 0)) := by kernel_rfl

/-- The node in block N: its ten counters, from cell 38 on. -/
def Counts (w : World) (N : Nat) (d : Nat → Int) : Prop :=
  N < w.heap.size ∧ ∀ i, i < 10 → w.cell? ⟨N, 38 + i, none⟩ = some (.int .u64 (d i)) ∧ w.frozen? ⟨N, 38 + i, none⟩ = false ∧ (Lit.int .u64 (d i)).wf = true

theorem Counts.below {w w' : World} {N B : Nat} {d : Nat → Int} (h : Counts w N d) (hb : Below B w w') (hN : N < B) : Counts w' N d :=
  ⟨Nat.lt_of_lt_of_le h.1 hb.size, fun i hi => ⟨(hb.cell (p := ⟨N, 38 + i, none⟩) hN).trans (h.2 i hi).1, (hb.frozen (p := ⟨N, 38 + i, none⟩) hN).trans (h.2 i hi).2.1, (h.2 i hi).2.2⟩⟩

set_option maxRecDepth 100000 in
theorem drops_any (N : Nat) (d : Nat → Int) (w : World) (hc : Counts w N d) :
    Calls Yba.prog 7 #[.pointer (some ⟨N, 0, none⟩)] w fun e w' => e = .returned (.map (some w.heap.size)) ∧ w'.ownsMap Yba.prog 79 (plainElem Yba.prog 22) w.heap.size 10 (Dm d 10) ∧ Below w.heap.size w w' := by
  have hN := hc.1
  have HC : Hid (Counts w N d) := hc
  clear hc
  have hmm := Yba.makeMap81
  go_enter Yba.func7, Yba.ntmps7
  go_wp2
  go_loopw [6] (fun i wr => ∃ k : Nat, k ≤ 10 ∧ i = .int .u8 k ∧ wr.ownsMap Yba.prog 79 (plainElem Yba.prog 22) w.heap.size k (Dm d k) ∧ Below w.heap.size w wr)
    (fun i _ => 10 - (intOf i).toNat)
  case atStart => exact ⟨0, Nat.zero_le _, rfl, World.ownsMap_made _ _ _ _, (Below.refl _ _).alloc (Nat.le_refl _) _⟩
  case round =>
    obtain ⟨k, hk, rfl, hown, hnx⟩ := hrel
    by_cases hlt : k < 10
    · obtain ⟨h1, _, h3⟩ := (HC.out.below hnx hN).2 k hlt
      have hkey : keyOf Yba.prog 79 (.int .u8 (k : Int)) = some (.int .u8 (k : Int)) := keyOf_int_mk Yba.underlying79 (WalkArith.wf_u8 (by omega))
      go_wp2_with (first
        | (go_at_call 8; refine (load_any N (38 + k) (d k) _ h1).mono ?_; rintro e w' ⟨rfl, rfl⟩)
        | (at_mapUpdate; refine wpList_mapUpdate_own _ rfl _ _ _ 81 rfl 79 22 law79 Yba.underlying81 _ w.heap.size k _ rfl hown (by unfold maxLen; omega) _ _ _ rfl rfl hkey _ [] (plainElem_int Yba.underlying22 h3) ?_; intro w1 hown1 hgrow1))
      go_roundw
      case rel => exact ⟨k + 1, by omega, by go_num, hown1, hnx.grown hgrow1 hnx.size (fun j hj => by cases hj; exact Nat.le_refl _)⟩
      case measure => simp [intOf]; omega
    · have : k = 10 := by omega
      subst this
      go_wp2
      go_ret
      exact ⟨rfl, hown, hnx⟩
end Go.Proofs.Ybulkbqbi
