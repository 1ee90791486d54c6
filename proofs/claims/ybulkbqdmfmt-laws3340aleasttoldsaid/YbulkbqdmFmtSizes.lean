/- The contract of treeSizes. By an AI agent. -/
import Derived.Test.YbulkbqdmFmtCalls
namespace Go.Proofs.YbulkbqdmFmt
open Go.RowKit

theorem Ybaf.info3 : (Ybaf.prog.info? 3).map (fun i => (i.zero, i.size, i.bytes)) = some (some (.int .i64 0), 1, 8) := by kernel_rfl

theorem le_div {P G d : Int} (hd : 3 ≤ d) : P ≤ (64 - G) / d ↔ P * d ≤ 64 - G := Int.le_ediv_iff_mul_le (by omega)

theorem ints_get {w : World} {B g j cap : Nat} {xs : List Int} (h : w.ownsRow B 3 1 (.slice (some ⟨g, 0, none⟩) (j + 1) cap) (j + 1) (xs.map (Value.int .i64))) (hl : xs.length = j + 1) (i : Nat) (hi : i < j + 1) :
    w.cell? ⟨g, i, none⟩ = some (.int .i64 (xs.getD i 0)) := by
  rw [h.cellAt i (by omega), List.getElem?_map, List.getD_eq_getElem?_getD, List.getElem?_eq_getElem (by omega)]
  rfl

set_option maxHeartbeats 800000 in
theorem sizes_any (d : Int) (w : World) (hd : 3 ≤ d) (hd2 : d ≤ 2000) :
    Calls Ybaf.prog 9 #[.int .i64 d] w fun e w' => ∃ g cap j, e = .returned (.slice (some ⟨g, 0, none⟩) (j + 1) cap) ∧ j ≤ 3 ∧ (∀ i, i < j + 1 → w'.cell? ⟨g, i, none⟩ = some (.int .i64 ((sizesTo d j).getD i 0))) ∧
      (∀ n, n ∈ sizesTo d j ↔ fillsB d n = true) ∧ Below w.heap.size w w' := by
  go_enter Ybaf.func9, Ybaf.ntmps9
  go_wp2
  go_loopw [3, 4] (fun v wd wr => ∃ j g cap : Nat, v = .slice (some ⟨g, 0, none⟩) (j + 1) cap ∧ wd = .int .i64 (pw d j) ∧ gs d j ≤ 64 ∧ wr.ownsRow w.heap.size 3 1 v (j + 1) ((sizesTo d j).map (Value.int .i64)) ∧ Below w.heap.size w wr)
    (fun _ wd _ => (65 - intOf wd).toNat)
  case atStart =>
    refine ⟨0, w.heap.size, 1, rfl, rfl, by simp [gs], ?_, (Below.refl _ _).alloc (Nat.le_refl _) _⟩
    exact World.ownsRow_lit w #[.int .i64 1] 1 (Nat.le_refl _) (by decide) rfl
  case round =>
    obtain ⟨j, g, cap, rfl, rfl, h64, hown, hnx⟩ := hrel
    have hj3 : j ≤ 3 := by
      by_cases e : j ≤ 3
      · exact e
      · have h1 := gs_four d hd
        have h2 := gs_mono d hd 4 (j - 4)
        rw [show 4 + (j - 4) = j by omega] at h2
        omega
    have hlast : wr.cell? ⟨g, j, none⟩ = some (.int .i64 (gs d j)) := by
      rw [ints_get hown (sizesTo_length d j) j (by omega), List.getD_eq_getElem?_getD, sizesTo_last]
      rfl
    have hP := pw_pos d hd j
    have hG := gs_pos d hd j
    have hst := pw_step d hd j
    have HOW : Hid (wr.ownsRow w.heap.size 3 1 (.slice (some ⟨g, 0, none⟩) (j + 1) cap) (j + 1) ((sizesTo d j).map (Value.int .i64))) := hown
    have HD : Hid (pw d j ≤ (64 - gs d j) / d ↔ pw d j * d ≤ 64 - gs d j) := le_div hd
    have HS : Hid (pw d (j + 1) = pw d j * d ∧ gs d (j + 1) = gs d j + pw d j * d) := ⟨rfl, rfl⟩
    have HX : Hid (3 * pw d j ≤ pw d (j + 1)) := hst
    have HB : Hid (gs d j ≤ 64) := h64
    clear hst hown
    generalize hPP : pw d j = P at *
    generalize hGG : gs d j = G at *
    have HP : Hid (pw d j = P) := hPP
    have HG : Hid (gs d j = G) := hGG
    clear hPP hGG
    by_cases hc : P ≤ (64 - G) / d
    · have hm := HD.out.1 hc
      have hm0 : 0 ≤ P * d := by
        have := Int.mul_le_mul_of_nonneg_right hP (show 0 ≤ d by omega)
        omega
      obtain ⟨i0, hi, hz0, hz1, hz2⟩ := info_parts Ybaf.info3
      go_wp2_with (at_builtin; refine wpList_append_lies _ rfl _ _ 35 rfl w.heap.size 3 i0 (.int .i64 0) 1 8 Ybaf.underlying35 hi hz0 hz1 hz2 rfl (by decide) (.slice (some ⟨g, 0, none⟩) (j + 1) cap) (j + 1) _ rfl (HOW.out.alloc _) ⟨wr.heap.size, 0, none⟩ 1 1 [.int .i64 (G + P * d)] rfl rfl (World.news_of_block (heap_alloc_new _ _)) (by intro u hu; simp at hu; subst hu; rfl) (by omega) (by unfold maxLen; omega) (by omega) (by have := hnx.size; simp; omega) (wr.heap.size + 1) (by simp) ?_; intro g1 cap1 w1 hown1 hgrow1 hat hglt)
      go_roundw
      case rel =>
        refine ⟨j + 1, g1, cap1, rfl, ?_, ?_, ?_, ?_⟩
        · rw [HS.out.1]
        · rw [HS.out.2]; omega
        · have e : (sizesTo d (j + 1)).map (Value.int .i64) = (sizesTo d j).map (Value.int .i64) ++ [.int .i64 (G + P * d)] := by
            show ((sizesTo d j) ++ [gs d (j + 1)]).map (Value.int .i64) = _
            rw [List.map_append, HS.out.2]
            rfl
          rw [e]
          exact hown1
        · exact (hnx.alloc hnx.size _).grown hgrow1 (by have := hnx.size; simp; omega) (fun k hk => (HOW.out.lt k hk).1)
      case measure =>
        have := HX.out
        have := HS.out
        simp [intOf]; omega
    · go_wp2
      go_ret
      have hgt : 64 < gs d (j + 1) := by
        rw [HS.out.2]
        have : ¬ P * d ≤ 64 - G := fun h => by have := HD.out.2 h; omega
        omega
      refine ⟨g, cap, j, rfl, hj3, fun i hi => ints_get HOW.out (sizesTo_length d j) i hi, fun n => mem_sizes d n hd j (by rw [HG.out]; exact HB.out) hgt, hnx⟩
end Go.Proofs.YbulkbqdmFmt
