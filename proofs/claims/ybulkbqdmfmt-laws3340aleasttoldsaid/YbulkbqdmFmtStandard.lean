/- The contract of standardTree. By an AI agent. -/
import Derived.Test.YbulkbqdmFmtSizes
import Derived.Test.YbulkbqdmFmtErrorf
import Derived.Maps.OwnSet
namespace Go.Proofs.YbulkbqdmFmt
open Go.RowKit Go.Maps Go.Extern.Stop Go.Stop Go.Extern

theorem law9 : Keyed Ybaf.prog 9 := string_keyed Ybaf.underlying9
theorem zero3 (w : World) : (zeroValue 3).run Ybaf.prog w = .ok (.int .i64 0) w := by kernel_rfl

/-- The one entry that standardTree lays. -/
def Dg (d : Int) : DataW Unit := (DataW.map []).put (.string [100, 101, 103, 114, 101, 101]) (.lit (.int .i64 d))

theorem hkeyD : keyOf Ybaf.prog 9 (.string ⟨#[100, 101, 103, 114, 101, 101]⟩) = some (.string [100, 101, 103, 114, 101, 101]) := WideMaps.keyOf_string_mk Ybaf.underlying9 (by decide)

theorem ins_any (W : World) (d : Int) (hd : 0 ≤ d) (hd2 : d ≤ 5000) : ∃ w2, (Instr.mapUpdate 22 (.map (some W.heap.size)) (.string ⟨#[100, 101, 103, 114, 101, 101]⟩) (.int .i64 d)).run Ybaf.prog (W.alloc (.map #[] 0)) = .ok () w2 ∧
    w2.ownsMap Ybaf.prog 9 (plainElem Ybaf.prog 3) W.heap.size 1 (Dg d) ∧ (W.alloc (.map #[] 0)).grownBy w2 (some W.heap.size) :=
  (World.ownsMap_made W Ybaf.prog 9 (plainElem Ybaf.prog 3)).update law9 Ybaf.underlying22 (by decide) hkeyD (plainElem_int Ybaf.underlying3 (WalkArith.wf_i64 (by omega)))

theorem cell_at {w : World} {b : Nat} {cs : Array Value} {t : TypeId} {fr : Nat × Nat} (h : w.heap[b]? = some (.cells cs t fr)) (i : Nat) : w.cell? ⟨b, i, none⟩ = cs[i]? := cell_of_row w b i cs t fr h
theorem frozen_at {w : World} {b : Nat} {cs : Array Value} {t : TypeId} (h : w.heap[b]? = some (.cells cs t (0, 0))) (i : Nat) : w.frozen? ⟨b, i, none⟩ = false := frozen_of_row w b i cs t h

theorem res_far {w wr w2 w3 : World} {cs : Array Value} {t : TypeId} (h : wr.heap[w.heap.size]? = some (.cells cs t (0, 0))) (hlt : w.heap.size < wr.heap.size) (hb : Below wr.heap.size wr w2) (hg : (w2.alloc (.map #[] 0)).grownBy w3 (some w2.heap.size)) :
    w3.heap[w.heap.size]? = some (.cells cs t (0, 0)) := by
  have hs := hb.size
  rw [hg.block _ (by simp; omega) (by simp; omega), Below.heap_alloc _ _ _ (by omega), hb.block _ hlt]
  exact h

theorem res_far2 {w wr w1 : World} {cs : Array Value} {t : TypeId} {o : Obj} (h : wr.heap[w.heap.size]? = some (.cells cs t (0, 0))) (hlt : w.heap.size < wr.heap.size) (hb : Below (wr.alloc o).heap.size (wr.alloc o) w1) : w1.heap[w.heap.size]? = some (.cells cs t (0, 0)) := by
  rw [hb.block _ (by simp; omega), Below.heap_alloc _ _ _ hlt]
  exact h

set_option maxRecDepth 100000 in
set_option maxHeartbeats 1000000 in
theorem standard_any (F : Interp) (n : Int) (w : World) (hF : F.answers w.tape) (h0 : -1024 ≤ n) (h1 : n ≤ 1024) :
    Calls Ybaf.prog 5 #[.int .i64 n] w fun e w' => Below w.heap.size w w' ∧
      ((∃ d m, least n = some d ∧ e = .returned (.tuple #[.agg #[.string ⟨#[]⟩, .map (some m), .map none], .nilIface]) ∧ w'.ownsMap Ybaf.prog 9 (plainElem Ybaf.prog 3) m 1 (Dg d)) ∨
       (∃ a, least n = none ∧ e = .returned (.tuple #[.agg #[.string ⟨#[]⟩, .map none, .map none], .iface 42 (.pointer (some a))]))) := by
  have hmm := @run_makeMap Ybaf.prog
  go_enter Ybaf.func5, Ybaf.ntmps5
  go_wp2
  go_loopw [4] (fun i wr => ∃ (d : Int) (f : Nat), i = .int .i64 d ∧ 3 ≤ d ∧ d ≤ 1030 ∧ (d ≤ n - 1 + 2 ∨ d ≤ 5) ∧ d + 2 * (f : Int) ≤ 1203 ∧ 1203 ≤ d + 2 * (f : Int) ∧ least n = srch n f d ∧ wr.heap[w.heap.size]? = some (.cells #[.string ⟨#[]⟩, .map none, .map none] 25 (0, 0)) ∧ Below w.heap.size w wr)
    (fun i _ => (1100 - intOf i).toNat)
  case atStart =>
    exact ⟨3, 600, rfl, by omega, by omega, by omega, by omega, by omega, rfl, heap_alloc_new _ _, (Below.refl _ _).alloc (Nat.le_refl _) _⟩
  case round =>
    obtain ⟨d, f, rfl, hd3, hdm, hdn, hfu, hf0, hle, hrv, hnx⟩ := hrel
    obtain ⟨f, rfl⟩ : ∃ f', f = f' + 1 := ⟨f - 1, by omega⟩
    have HLE : Hid (least n = srch n (f + 1) d) := hle
    have HRV : Hid (wr.heap[w.heap.size]? = some (.cells #[.string ⟨#[]⟩, .map none, .map none] 25 (0, 0))) := hrv
    have hlt := (Array.getElem?_eq_some_iff.1 hrv).1
    clear hle hrv
    by_cases hc : d ≤ n - 1 ∨ d = 3
    · by_cases hn4 : n - 1 < 3
      all_goals
        cases hb : fillsB d n
        · go_wp2_with (first
            | (go_at_call 9; refine (sizes_any d _ hd3 (by omega)).mono ?_; rintro e w1 ⟨g, cap, j, rfl, hj, hcell, hmem, hb1⟩)
            | (go_at_call 8; refine (contains_any g (j + 1) cap n (sizesTo d j) _ (by omega) (sizesTo_length d j) hcell false (by rw [hmem n, hb])).mono ?_; rintro e w2 ⟨rfl, rfl⟩))
          go_roundw
          case rel =>
            refine ⟨d + 2, f, rfl, by omega, by omega, by omega, by omega, by omega, ?_, ?_, ?_⟩
            · have h := HLE.out
              unfold srch at h
              rw [if_pos (by omega), hb] at h
              simpa using h
            · rw [hb1.block _ hlt]; exact HRV.out
            · exact hnx.trans (hb1.mono hnx.size)
          case measure => simp [intOf]; omega
        · have hfin : Hid (least n = some d) := by
            show least n = some d
            have h := HLE.out
            unfold srch at h
            rw [if_pos (by omega), hb] at h
            simpa using h
          go_wp2_with (first
            | (go_at_call 9; refine (sizes_any d _ hd3 (by omega)).mono ?_; rintro e w1 ⟨g, cap, j, rfl, hj, hcell, hmem, hb1⟩)
            | (go_at_call 8; refine (contains_any g (j + 1) cap n (sizesTo d j) _ (by omega) (sizesTo_length d j) hcell true (by rw [hmem n, hb])).mono ?_; rintro e w2 ⟨rfl, rfl⟩; obtain ⟨w3, hrun, hown3, hgrow3⟩ := ins_any w2 d (by omega) (by omega); have hR := res_far HRV.out hlt hb1 hgrow3; have r0 : w3.cell? ⟨w.heap.size, 0, none⟩ = some (.string ⟨#[]⟩) := cell_at hR 0; have r1 : w3.cell? ⟨w.heap.size, 1, none⟩ = some (.map none) := cell_at hR 1; have r2 : w3.cell? ⟨w.heap.size, 2, none⟩ = some (.map none) := cell_at hR 2; have q := frozen_at hR))
          refine bodyPost_ret (v := .tuple #[.agg #[.string ⟨#[]⟩, .map (some w2.heap.size), .map none], .nilIface]) (by simp [results, Ybaf.results5, go_sem, r0, r1, r2]) rfl ⟨?_, .inl ⟨d, _, hfin.out, rfl, ?_⟩⟩
          · exact ((((hnx.trans (hb1.mono hnx.size)).alloc (by have := hb1.size; omega) _).grown hgrow3 (by have := hb1.size; simp; omega) (fun k hk => by cases hk; have := hb1.size; omega)).setCell (Nat.le_refl _) _).setCell (Nat.le_refl _) _ |>.setCell (Nat.le_refl _) _
          · have hne : w2.heap.size ≠ w.heap.size := by have := hb1.size; omega
            exact ((hown3.setCell (a := ⟨w.heap.size, 0, none⟩) hne _).setCell (a := ⟨w.heap.size, 1, none⟩) hne _).setCell (a := ⟨w.heap.size, 2, none⟩) hne _
    · have hfin : Hid (least n = none) := by
        show least n = none
        have h := HLE.out
        unfold srch at h
        rw [if_neg (by omega)] at h
        exact h
      have hFr : F.answers wr.tape := by rw [hnx.tape]; exact hF
      by_cases hn4 : n - 1 < 3
      all_goals
        go_wp2_with (go_at_call 10; refine (errorf_any F wr.heap.size n _ (by exact hFr) (by simp)).mono ?_; rintro e w1 ⟨⟨a, rfl⟩, hb1⟩; have hR := res_far2 HRV.out hlt hb1; have r0 : w1.cell? ⟨w.heap.size, 0, none⟩ = some (.string ⟨#[]⟩) := cell_at hR 0; have r1 : w1.cell? ⟨w.heap.size, 1, none⟩ = some (.map none) := cell_at hR 1; have r2 : w1.cell? ⟨w.heap.size, 2, none⟩ = some (.map none) := cell_at hR 2; have q := frozen_at hR)
        refine bodyPost_ret (v := .tuple #[.agg #[.string ⟨#[]⟩, .map none, .map none], .iface 42 (.pointer (some a))]) (by simp [results, Ybaf.results5, go_sem, r0, r1, r2]) rfl ⟨?_, .inr ⟨a, hfin.out, rfl⟩⟩
        exact (((hnx.alloc hnx.size _).trans (hb1.mono (by have := hnx.size; simp; omega))).setCell (Nat.le_refl _) _).setCell (Nat.le_refl _) _ |>.setCell (Nat.le_refl _) _
end Go.Proofs.YbulkbqdmFmt
