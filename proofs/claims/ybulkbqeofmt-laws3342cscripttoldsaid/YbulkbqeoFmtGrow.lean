/- ring.grow. By an AI agent. -/
import Derived.Test.YbulkbqeoFmtRing
import Derived.Laws.CopyOwn
import Derived.Deep.RegionLaw
namespace Go.Proofs.YbulkbqeoFmt
open Go Go.RowKit
theorem Ybaf.info57 : (Ybaf.prog.info? 57).map (fun i => (i.zero, i.size, i.bytes)) = some (some (.pointer none), 1, 8) := by kernel_rfl

theorem made_row {w1 : World} {N S base : Nat} {xs : List Value} (h : w1.ownsRow base 57 1 (.slice (some ⟨N, 0, none⟩) S S) S xs) : ∃ Z : List Value, Z.length = S ∧ w1.heap[N]? = some (.cells Z.toArray 57 (0, 0)) := by
  rcases h.2 with ⟨hv, _⟩ | ⟨g, c, cur, hv, _, hg, _, _, hs, _⟩
  · cases hv
  · simp only [Value.slice.injEq, Option.some.injEq, Addr.mk.injEq, and_true, true_and] at hv
    obtain ⟨rfl, rfl⟩ := hv
    exact ⟨cur.toList, by simpa using hs, by simpa using hg⟩
theorem add_plain (b off i : Nat) : (⟨b, off, none⟩ : Addr).add i = ⟨b, off + i, none⟩ := Go.WideShapes.add_plain b off i

theorem turned {l Z X1 X2 : List Value} {L h K j : Nat} (hl : l.length = L) (hh : h < L) (hK : L - h = K) (hX1 : X1 = l.drop h) (hX2 : X2 = l.take h) (hj : j < L) :
    (splice (splice Z 0 X1) K X2)[j]? = l[(h + j) % L]? := by
  have l1 : X1.length = K := by rw [hX1, List.length_drop]; omega
  have l2 : X2.length = h := by rw [hX2, List.length_take]; omega
  have e1 : splice Z 0 X1 = X1 ++ Z.drop K := by simp [splice, l1]
  have e2 : splice (X1 ++ Z.drop K) K X2 = X1 ++ (X2 ++ (X1 ++ Z.drop K).drop (K + X2.length)) := by
    unfold splice
    rw [List.take_append_of_le_length (by omega), List.take_of_length_le (by omega)]
  rw [e1, e2]
  rcases Nat.lt_or_ge j K with hlt | hge
  · rw [List.getElem?_append_left (by omega), hX1, List.getElem?_drop, Nat.mod_eq_of_lt (by omega)]
  · rw [List.getElem?_append_right (by omega), List.getElem?_append_left (by omega), hX2, List.getElem?_take, if_pos (by omega), Nat.mod_eq_sub_mod (by omega), Nat.mod_eq_of_lt (by omega)]
    congr 1
    omega

set_option maxRecDepth 100000 in
set_option maxHeartbeats 1000000 in
theorem grow_walk {C o B L : Nat} (h S : Nat) (l : List Value) (w : World) (hh : h < L) (hS : L < S) (hS2 : S ≤ 4096) (hl : l.length = L) (hCw : C < w.heap.size)
    (c0 : w.cell? ⟨C, o, none⟩ = some (.slice (some ⟨B, 0, none⟩) L L)) (c1 : w.cell? ⟨C, o + 1, none⟩ = some (.int .i64 h))
    (fz : ∀ j, w.frozen? ⟨C, j, none⟩ = false) (hB : w.heap[B]? = some (.cells l.toArray 57 (0, 0))) (h1c : ∀ v ∈ l, v.oneCell' = true) :
    Calls Ybaf.prog 14 #[.pointer (some ⟨C, o, none⟩), .int .i64 S] w fun e w' => (∃ v, e = .returned v) ∧ ∃ (w5 : World) (Y : List Value), w' = (w5.setCell ⟨C, o, none⟩ (.slice (some ⟨w.heap.size, 0, none⟩) S S)).setCell ⟨C, o + 1, none⟩ (.int .i64 0) ∧ Below w.heap.size w w5 ∧
      w5.heap[w.heap.size]? = some (.cells Y.toArray 57 (0, 0)) ∧ Y.length = S ∧ ∀ j, j < L → Y[j]? = l[(h + j) % L]? := by
  have i1 : (0 : Int) ≤ (h : Int) := by omega
  have i2 : (h : Int) ≤ (L : Int) := by omega
  obtain ⟨i0, hi, hz0, hz1, hz2⟩ := info_parts Ybaf.info57
  go_enter Ybaf.func14, Ybaf.ntmps14
  go_wp2_with (at_make; refine wpList_make_full _ rfl _ _ 30 rfl w.heap.size 57 i0 _ 1 Ybaf.underlying30 hi hz0 hz1 .i64 .i64 _ _ S rfl rfl (by omega) (by omega) (by rw [hz2]; omega) (by unfold maxLen; omega) (Nat.le_refl _) ?_; intro w1 hown1 hgrow1)
  have hb1 : Below w.heap.size w w1 := (Below.refl _ _).grown hgrow1 (Nat.le_refl _) (fun k hk => by cases hk)
  have d0 := (hb1.cell (p := ⟨C, o, none⟩) hCw).trans c0
  have d1 := (hb1.cell (p := ⟨C, o + 1, none⟩) hCw).trans c1
  have HB1 := hide hb1
  clear hb1
  have hLh : ¬ L = h := by omega
  have hZ := made_row hown1
  obtain ⟨Z, hZl, hZg⟩ := hZ
  have HZ := hide hZg
  clear hZg
  obtain ⟨X1, hX1⟩ : ∃ X1, X1 = l.drop h := ⟨_, rfl⟩
  obtain ⟨X2, hX2⟩ : ∃ X2, X2 = l.take h := ⟨_, rfl⟩
  have x1l : X1.length = L - h := by rw [hX1, List.length_drop]; omega
  have x2l : X2.length = h := by rw [hX2, List.length_take]; omega
  have hBw : B < w.heap.size := by
    rcases Nat.lt_or_ge B w.heap.size with hlt | hge
    · exact hlt
    · rw [Array.getElem?_eq_none hge] at hB; cases hB
  have s1 : Hid (∀ W : World, W.heap[B]? = w.heap[B]? → ∀ (j : Nat) v, X1[j]? = some v → W.cell? ((⟨B, h, none⟩ : Addr).add j) = some v) := by
    intro W hW j v hv
    rw [add_plain, cell_at (hW.trans hB)]
    rw [hX1, List.getElem?_drop] at hv
    simpa using hv
  have s2 : Hid (∀ v ∈ X1, v.oneCell' = true) := fun v hv => h1c v (List.mem_of_mem_drop (hX1 ▸ hv))
  have hBB := (HB1.out).block B hBw
  have HX1 := hide hX1
  have HX2 := hide hX2
  clear hX1 hX2
  have hszz : (Ybaf.prog.info? 57).map (·.size) = some 1 := by rw [hi]; simp [hz1]
  obtain ⟨K, hKL⟩ : ∃ K, L - h = K := ⟨_, rfl⟩
  have hm1 : X1.length = Nat.min K S := by rw [x1l, hKL]; exact (Nat.min_eq_left (by omega)).symm
  have hm2 : X2.length = Nat.min h (S - K) := by rw [x2l]; exact (Nat.min_eq_left (by omega)).symm
  have k1 : (0 : Int) ≤ (K : Int) := by omega
  have k2 : (K : Int) ≤ (S : Int) := by omega
  have k3 : ¬ S = K := by omega
  have s3 : Hid (∀ W : World, W.heap[B]? = w.heap[B]? → ∀ (j : Nat) v, X2[j]? = some v → W.cell? ((⟨B, 0, none⟩ : Addr).add j) = some v) := by
    intro W hW j v hv
    rw [add_plain, cell_at (hW.trans hB)]
    rw [HX2.out, List.getElem?_take] at hv
    split at hv
    · simpa using hv
    · cases hv
  have s4 : Hid (∀ v ∈ X2, v.oneCell' = true) := fun v hv => h1c v (List.mem_of_mem_take (HX2.out ▸ hv))
  have hXl : X1.length + X2.length = L := by omega
  have hX1K : X1.length = K := by omega
  go_region_law (refine step_copy_splice rfl (.tmp 8) (.tmp 17) 30 30 rfl 57 Ybaf.underlying30 hszz (some ⟨w.heap.size, 0, none⟩) (some ⟨B, h, none⟩) S S K K (by simp [Act.eval, Act.put]) (by simp [Act.eval, Act.put]) w.heap.size 0 Z 57 HZ.out X1 hm1 (fun _ => ⟨rfl, _, rfl, s1.out _ hBB⟩) (by omega) s2.out w.heap.size w (HB1.out).drew (Nat.le_refl _) ?_; intro w4 hg4 hb4)
  all_goals
    have e0 := (hb4.cell (p := ⟨C, o, none⟩) hCw).trans c0
    have e1 := (hb4.cell (p := ⟨C, o + 1, none⟩) hCw).trans c1
    have hBB4 := hb4.block B hBw
    have HB4 := hide hb4
    have hlZ : (splice Z 0 X1).length = S := by rw [length_splice _ _ _ (by omega)]; exact hZl
    clear hb4
    go_wp2
    go_region_law (refine step_copy_splice rfl (.tmp 21) (.tmp 30) 30 30 rfl 57 Ybaf.underlying30 hszz (some ⟨w.heap.size, K, none⟩) (some ⟨B, 0, none⟩) (S - K) (S - K) h L (by simp [Act.eval, Act.put]) (by simp [Act.eval, Act.put]) w.heap.size K (splice Z 0 X1) 57 hg4.out X2 hm2 (fun _ => ⟨rfl, _, rfl, s3.out _ hBB4⟩) (by omega) s4.out w.heap.size w (HB4.out).drew (Nat.le_refl _) ?_; intro w5 hg5 hb5)
  all_goals
    have r0 := (hb5.cell (p := ⟨C, o, none⟩) hCw).trans c0
    have r1 := (hb5.cell (p := ⟨C, o + 1, none⟩) hCw).trans c1
    have rz : ∀ j, w5.frozen? ⟨C, j, none⟩ = false := fun j => (hb5.frozen (p := ⟨C, j, none⟩) hCw).trans (fz j)
    have HB5 := hide hb5
    clear hb5
    go_wp2
    go_end0
    exact ⟨⟨_, rfl⟩, w5, _, rfl, HB5.out, hg5.out, by rw [length_splice _ _ _ (by omega)]; exact hlZ, fun j hj => turned hl hh hKL HX1.out HX2.out hj⟩

set_option maxRecDepth 100000 in
set_option maxHeartbeats 1000000 in
theorem grow_nil {C o : Nat} (S : Nat) (w : World) (hS : 0 < S) (hS2 : S ≤ 4096) (hCw : C < w.heap.size)
    (c0 : w.cell? ⟨C, o, none⟩ = some (.slice none 0 0)) (c1 : w.cell? ⟨C, o + 1, none⟩ = some (.int .i64 0)) (fz : ∀ j, w.frozen? ⟨C, j, none⟩ = false) :
    Calls Ybaf.prog 14 #[.pointer (some ⟨C, o, none⟩), .int .i64 S] w fun e w' => (∃ v, e = .returned v) ∧ ∃ (w5 : World) (Y : List Value), w' = (w5.setCell ⟨C, o, none⟩ (.slice (some ⟨w.heap.size, 0, none⟩) S S)).setCell ⟨C, o + 1, none⟩ (.int .i64 0) ∧ Below w.heap.size w w5 ∧
      w5.heap[w.heap.size]? = some (.cells Y.toArray 57 (0, 0)) ∧ Y.length = S := by
  obtain ⟨i0, hi, hz0, hz1, hz2⟩ := info_parts Ybaf.info57
  go_enter Ybaf.func14, Ybaf.ntmps14
  go_wp2_with (at_make; refine wpList_make_full _ rfl _ _ 30 rfl w.heap.size 57 i0 _ 1 Ybaf.underlying30 hi hz0 hz1 .i64 .i64 _ _ S rfl rfl (by omega) (by omega) (by rw [hz2]; omega) (by unfold maxLen; omega) (Nat.le_refl _) ?_; intro w1 hown1 hgrow1)
  have hb1 : Below w.heap.size w w1 := (Below.refl _ _).grown hgrow1 (Nat.le_refl _) (fun k hk => by cases hk)
  have d0 := (hb1.cell (p := ⟨C, o, none⟩) hCw).trans c0
  have d1 := (hb1.cell (p := ⟨C, o + 1, none⟩) hCw).trans c1
  have HB1 := hide hb1
  clear hb1
  obtain ⟨Z, hZl, hZg⟩ := made_row hown1
  have HZ := hide hZg
  clear hZg
  have k3 : ¬ S = 0 := by omega
  have hszz : (Ybaf.prog.info? 57).map (·.size) = some 1 := by rw [hi]; simp [hz1]
  go_region_law (refine step_copy_splice rfl (.tmp 8) (.tmp 17) 30 30 rfl 57 Ybaf.underlying30 hszz (some ⟨w.heap.size, 0, none⟩) none S S 0 0 (by simp [Act.eval, Act.put]) (by simp [Act.eval, Act.put]) w.heap.size 0 Z 57 HZ.out [] (by simp [Nat.min]) (fun h => by cases h) (by simp) (fun v hv => by cases hv) w.heap.size w (HB1.out).drew (Nat.le_refl _) ?_; intro w4 hg4 hb4)
  all_goals
    have e0 := (hb4.cell (p := ⟨C, o, none⟩) hCw).trans c0
    have e1 := (hb4.cell (p := ⟨C, o + 1, none⟩) hCw).trans c1
    have HB4 := hide hb4
    have hlZ : (splice Z 0 []).length = S := by rw [length_splice _ _ _ (by simp)]; exact hZl
    clear hb4
    go_wp2
    go_region_law (refine step_copy_splice rfl (.tmp 21) (.tmp 30) 30 30 rfl 57 Ybaf.underlying30 hszz (some ⟨w.heap.size, 0, none⟩) none S S 0 0 (by simp [Act.eval, Act.put]) (by simp [Act.eval, Act.put]) w.heap.size 0 (splice Z 0 []) 57 hg4.out [] (by simp [Nat.min]) (fun h => by cases h) (by simp) (fun v hv => by cases hv) w.heap.size w (HB4.out).drew (Nat.le_refl _) ?_; intro w5 hg5 hb5)
  all_goals
    have r0 := (hb5.cell (p := ⟨C, o, none⟩) hCw).trans c0
    have r1 := (hb5.cell (p := ⟨C, o + 1, none⟩) hCw).trans c1
    have rz : ∀ j, w5.frozen? ⟨C, j, none⟩ = false := fun j => (hb5.frozen (p := ⟨C, j, none⟩) hCw).trans (fz j)
    have HB5 := hide hb5
    clear hb5
    go_wp2
    go_end0
    exact ⟨⟨_, rfl⟩, w5, _, rfl, HB5.out, hg5.out, by rw [length_splice _ _ _ (by simp)]; exact hlZ⟩
end Go.Proofs.YbulkbqeoFmt
