/- LawS3336BExact, walked. By an AI agent. -/
import Derived.Test.YbulkbqbiDrops
import Derived.BigQuiet
import Derived.Deep.RegionWith
namespace Go.Proofs.Ybulkbqbi
open Go.RowKit Go.Maps

/-- The argument's box and the node, in the middle of the first loop. -/
def Mid (w wr : World) (z : Nat → Int) (k : Nat) : Prop :=
  (∀ i, i < 10 → wr.cell? ⟨w.heap.size, i, none⟩ = some (.int .u64 (z i))) ∧ Counts wr (w.heap.size + 1) (fun i => if i < k then z i else 0) ∧ Below w.heap.size w wr

theorem mid_step {w wr : World} {z : Nat → Int} {k : Nat} (h : Mid w wr z k) (hk : k < 10) (hw : (Lit.int .u64 (z k)).wf = true) :
    Mid w ((wr.setCell ⟨w.heap.size + 1, 38 + k, none⟩ (.int .u64 (z k))).drew) z (k + 1) := by
  obtain ⟨h1, h2, h3⟩ := h
  refine ⟨fun i hi => ?_, ⟨?_, fun i hi => ?_⟩, (h3.setCell (by simp) _).drew⟩
  · show (wr.setCell _ _).cell? _ = _
    rw [World.cell?_setCell_other _ _ _ _ (by simp)]
    exact h1 i hi
  · have := h2.1
    simpa [World.setCell] using this
  · obtain ⟨g1, g2, g3⟩ := h2.2 i hi
    refine ⟨?_, ?_, ?_⟩
    · show (wr.setCell _ _).cell? _ = _
      by_cases e : i = k
      · subst e
        rw [World.cell?_setCell_same _ _ _ g1]
        simp
      · rw [World.cell?_setCell_other _ _ _ _ (by intro he; injection he with _ e2 _; omega), g1]
        have : (i < k + 1) = (i < k) := by apply propext; omega
        simp [this]
    · show (wr.setCell _ _).frozen? _ = _
      rw [World.frozen?_setCell]
      exact g2
    · by_cases e : i = k
      · subst e; simpa using hw
      · have : (i < k + 1) = (i < k) := by apply propext; omega
        simpa [this] using g3

/-- What stands behind the call of Drops. -/
def Late (w wr : World) (z : Nat → Int) (M : Nat) : Prop :=
  (∀ i, i < 10 → wr.cell? ⟨w.heap.size, i, none⟩ = some (.int .u64 (z i))) ∧ Counts wr (w.heap.size + 1) z ∧ wr.ownsMap Yba.prog 79 (plainElem Yba.prog 22) M 10 (Dm z 10) ∧ Below w.heap.size w wr

theorem late_drew {w wr : World} {z : Nat → Int} {M : Nat} (h : Late w wr z M) (n : Nat) : Late w (wr.drewN n) z M := by
  induction n with
  | zero => exact h
  | succ n ih => exact ⟨ih.1, ih.2.1, ih.2.2.1, ih.2.2.2.drew⟩

theorem late_of {w wr w1 : World} {z : Nat → Int} (h : Mid w wr z 10) (hown : w1.ownsMap Yba.prog 79 (plainElem Yba.prog 22) wr.heap.size 10 (Dm z 10)) (hb : Below wr.heap.size wr w1) : Late w w1 z wr.heap.size := by
  have hN := h.2.1.1
  refine ⟨fun i hi => (hb.cell (p := ⟨w.heap.size, i, none⟩) (by show w.heap.size < _; omega)).trans (h.1 i hi), ?_, hown, h.2.2.trans (hb.mono h.2.2.size)⟩
  have : Counts wr (w.heap.size + 1) z := ⟨hN, fun i hi => by have := h.2.1.2 i hi; simpa [hi] using this⟩
  exact this.below hb hN

set_option maxRecDepth 100000 in
set_option maxHeartbeats 400000 in
theorem exact_walk (c : Array Value) (z : Nat → Int) (w : World) (hc : ∀ i, i < 10 → c[i]? = some (.int .u64 (z i)) ∧ (Lit.int .u64 (z i)).wf = true) :
    Calls Yba.prog 3 #[.agg c] w fun e w' => e = .returned (.bool true) ∧ Below w.heap.size w w' := by
  have HC : Hid (∀ i, i < 10 → c[i]? = some (.int .u64 (z i)) ∧ (Lit.int .u64 (z i)).wf = true) := hc
  clear hc
  go_enter Yba.func3, Yba.ntmps3
  go_wp2
  go_loopw [11] (fun i wr => ∃ k : Nat, k ≤ 10 ∧ i = .int .u8 k ∧ Mid w wr z k)
    (fun i _ => 10 - (intOf i).toNat)
  case atStart =>
    refine ⟨0, Nat.zero_le _, rfl, fun i hi => ?_, ⟨by simp, fun i hi => ?_⟩, (((Below.refl _ _).alloc (Nat.le_refl _) _).alloc (by simp) _)⟩
    · rw [World.cell?_alloc_past _ _ _ (by simp)]
      simpa using (HC.out i hi).1
    · match i, hi with
      | 0, _ => exact ⟨by simp, by simp, by simp; decide⟩
      | 1, _ => exact ⟨by simp, by simp, by simp; decide⟩
      | 2, _ => exact ⟨by simp, by simp, by simp; decide⟩
      | 3, _ => exact ⟨by simp, by simp, by simp; decide⟩
      | 4, _ => exact ⟨by simp, by simp, by simp; decide⟩
      | 5, _ => exact ⟨by simp, by simp, by simp; decide⟩
      | 6, _ => exact ⟨by simp, by simp, by simp; decide⟩
      | 7, _ => exact ⟨by simp, by simp, by simp; decide⟩
      | 8, _ => exact ⟨by simp, by simp, by simp; decide⟩
      | 9, _ => exact ⟨by simp, by simp, by simp; decide⟩
      | n + 10, h => omega
  case round =>
    obtain ⟨k, hk, rfl, hmid⟩ := hrel
    by_cases hlt : k < 10
    · have h1 : wr.cell? ⟨w.heap.size + 1, 38 + k, none⟩ = some (.int .u64 0) := by simpa using (hmid.2.1.2 k hlt).1
      have h2 := (hmid.2.1.2 k hlt).2.1
      have hzk := hmid.1 k hlt
      have HM : Hid (Mid w wr z k) := hmid
      clear hmid
      have b1 : (0 : Int) ≤ (k : Int) := by omega
      have b2 : (k : Int) < 10 := by omega
      go_wp2
      go_region_with (go_at_call 6; refine (store_any (w.heap.size + 1) (38 + k) (z k) (.int .u64 0) _ (by exact h1) (by exact h2)).mono ?_; rintro e w' ⟨rfl, rfl⟩)
      go_wp2
      go_roundw
      case rel => exact ⟨k + 1, by omega, by go_num, mid_step HM.out hlt (HC.out k hlt).2⟩
      case measure => simp [intOf]; omega
    · have : k = 10 := by omega
      subst this
      have hcn : Counts wr (w.heap.size + 1) z := ⟨hmid.2.1.1, fun i hi => by have := hmid.2.1.2 i hi; simpa [hi] using this⟩
      have HM : Hid (Mid w wr z 10) := hmid
      clear hmid
      have HCN : Hid (Counts wr (w.heap.size + 1) z) := hcn
      clear hcn
      go_wp2_with (first
        | (go_at_call 7; refine (drops_any (w.heap.size + 1) z _ HCN.out).mono ?_; rintro e w1 ⟨rfl, hown, hb1⟩)
        | (at_len; refine wpList_len_own _ rfl _ 81 rfl 79 22 Yba.underlying81 _ wr.heap.size 10 _ rfl hown ?_; rw [Dm_size]))
      have HL : Hid (Late w w1 z wr.heap.size) := late_of HM.out hown hb1
      clear hown hb1 HCN HM hk hlt
      generalize wr.heap.size = M at HL ⊢
      go_loopw [29] (fun i wr => ∃ k : Nat, k ≤ 10 ∧ i = .int .u8 k ∧ Late w wr z M)
        (fun i _ => 10 - (intOf i).toNat)
      case atStart => exact ⟨0, Nat.zero_le _, rfl, HL.out⟩
      case round =>
        obtain ⟨k, hk, rfl, hl⟩ := hrel
        by_cases hlt : k < 10
        · have hzk := hl.1 k hlt
          have h1 := (hl.2.1.2 k hlt).1
          have hown := hl.2.2.1
          have hkey : keyOf Yba.prog 79 (.int .u8 (k : Int)) = some (.int .u8 (k : Int)) := keyOf_int_mk Yba.underlying79 (WalkArith.wf_u8 (by omega))
          have hhas : has (Dm z 10) (.int .u8 (k : Int)) = true := by rw [Dm_has]; simpa using hlt
          have HAT : Hid ((Dm z 10).atKey (.int .u8 (k : Int)) (.lit (.int .u64 0)) = .lit (.int .u64 (z k))) := Dm_atKey z _ 10 k hlt
          have HLt : Hid (Late w wr z M) := hl
          clear hl HL
          have b1 : (0 : Int) ≤ (k : Int) := by omega
          have b2 : (k : Int) < 10 := by omega
          go_wp2_with (at_lookup; refine wpList_lookup_own_ok_int _ rfl _ _ 81 rfl 79 22 .u64 law79 Yba.underlying81 Yba.underlying22 (zero22 _) M 10 _ rfl hown _ _ rfl hkey ?_; intro c hat _; rw [HAT.out] at hat; injection hat with hat; injection hat with _ hat; subst hat)
          go_quiet ((go_at_call 8; exact Calls.quiet_of_same (load_any (w.heap.size + 1) (38 + k) (z k) _ (by simpa using h1))))
          go_wp2
          go_roundw
          case rel => exact ⟨k + 1, by omega, by go_num, late_drew HLt.out _⟩
          case measure => simp [intOf]; omega
        · go_wp2
          go_ret
          exact ⟨rfl, hl.2.2.2⟩
end Go.Proofs.Ybulkbqbi
