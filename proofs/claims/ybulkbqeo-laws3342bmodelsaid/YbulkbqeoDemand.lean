/- demand: it comes to 'valF' of the tree. By an AI agent. -/
import Derived.Test.YbulkbqeoModel
namespace Go.Proofs.Ybulkbqeo
open Go.RowKit

theorem Ops.slice' {lo hi : Nat} {w : World} {d : Nat} {u : Value} {t : Tr d} (h : Ops lo hi w d u t) : ∃ a l c, u = .slice a l c := by
  cases d with
  | zero => exact ⟨none, 0, 0, h⟩
  | succ d => exact Ops.slice h

theorem box_alloc {w2 w4 : World} {cs : Array Value} (h : Below (w2.alloc (.cells cs 34)).heap.size (w2.alloc (.cells cs 34)) w4) : Below w2.heap.size w2 w4 ∧ w4.heap[w2.heap.size]? = some (.cells cs 34 (0, 0)) := by
  have hs : (w2.alloc (.cells cs 34)).heap.size = w2.heap.size + 1 := by
    show (w2.heap.push _).size = _
    rw [Array.size_push]
  refine ⟨((Below.refl _ _).alloc (Nat.le_refl _) _).trans (h.mono (by omega)), (h.block _ (by omega)).trans ?_⟩
  show (w2.heap.push _)[w2.heap.size]? = _
  simp

theorem below_drewN' {B : Nat} {a w : World} (h : Below B a w) (n : Nat) : Below B a (w.drewN n) := h.trans ⟨rfl, rfl, rfl, Nat.le_refl _, fun _ _ => rfl⟩

set_option maxRecDepth 100000 in
theorem demand_nil (w : World) : Calls Yba.prog 7 #[.slice none 0 0] w fun e w' => e = .returned (.int .i64 0) ∧ w' = w := by
  go_enter Yba.func7, Yba.ntmps7
  go_wp2
  go_loop [3, 9] (fun s i => s = .int .i64 0 ∧ i = .int .i64 0) (fun _ _ => 0)
  case atStart => exact ⟨rfl, rfl⟩
  case round =>
    obtain ⟨rfl, rfl⟩ := hrel
    go_wp2
    go_ret
    exact ⟨rfl, rfl⟩

set_option maxRecDepth 100000 in
set_option maxHeartbeats 2000000 in
theorem demand_any : ∀ (d : Nat) (lo hi : Nat) (w : World) (u : Value) (t : Tr d), hi ≤ w.heap.size → Ops lo hi w d u t → Calls Yba.prog 7 #[u] w fun e w' => e = .returned (.int .i64 (valF d t)) ∧ Below w.heap.size w w' := by
  intro d
  induction d with
  | zero =>
    intro lo hi w u t hb h
    cases h
    refine (demand_nil w).mono ?_
    rintro e w' ⟨rfl, rfl⟩
    exact ⟨rfl, Below.refl _ _⟩
  | succ d ih =>
    intro lo hi w u t hb h
    have IH := hide ih
    clear ih
    have hval := h.val
    obtain ⟨a, cap, rfl, hl, hx⟩ := h
    have HX := hide hx
    clear hx
    change List (Int × Int × Int × Tr d) at t
    have hv : valF (d + 1) t = valL (valF d) t 0 := rfl
    rw [hv] at hval ⊢
    clear hv
    obtain ⟨V, hV⟩ : ∃ V, valL (valF d) t 0 = V := ⟨_, rfl⟩
    rw [hV] at hval ⊢
    go_enter Yba.func7, Yba.ntmps7
    go_wp2
    go_loopw [3, 9] (fun s i wr => ∃ (k : Nat) (tot : Int), s = .int .i64 tot ∧ i = .int .i64 k ∧ k ≤ t.length ∧ 0 ≤ tot ∧ tot ≤ lim ∧ valL (valF d) (t.drop k) tot = V ∧ Below w.heap.size w wr)
      (fun _ i _ => t.length - (intOf i).toNat)
    case atStart => exact ⟨0, 0, rfl, rfl, by omega, by omega, by unfold lim; omega, hV, Below.refl _ _⟩
    case round =>
      obtain ⟨k, tot, rfl, rfl, hk, ht0, ht1, hsum, hnx⟩ := hrel
      by_cases hlt : k < t.length
      · obtain ⟨⟨kd, us, ct, tb⟩, hxk⟩ := itm_lt hlt
        obtain ⟨b, off, body, ha, _, hbh, ⟨f0, f1, f2, f3, f4, f5⟩, c0, c1, c2, c3, c4, c5, hob⟩ := HX.out k _ hxk
        dsimp only at f0 f1 f2 f3 f4 f5 c0 c1 c2 c3 c4 c5 hob
        rw [itm_drop hxk] at hsum
        subst ha
        have HS := hide hsum
        clear hsum
        unfold lim at ht1
        generalize hL : t.length = L at *
        have hV : 0 ≤ valF d tb ∧ valF d tb ≤ 4611686018427387905 := hob.val
        have e := hnx.block b (by omega)
        replace c0 := (cell_same e).trans c0
        replace c1 := (cell_same e).trans c1
        replace c2 := (cell_same e).trans c2
        replace c3 := (cell_same e).trans c3
        replace c4 := (cell_same e).trans c4
        replace c5 := (cell_same e).trans c5
        obtain ⟨ba, bl, bc, rfl⟩ := Ops.slice' hob
        have HO := hide hob
        clear hob e
        have HNX := hide hnx
        clear hnx
        have hsz := HNX.out.size
        by_cases hw : kd = 1 ∨ kd = 5
        · have hs := HS.out
          by_cases hov : 4611686018427387904 < tot + us
          · rw [valL_work _ hw hov] at hs
            rcases hw with rfl | rfl
            all_goals
              go_wp2
              go_ret
              rw [← hs]
              exact ⟨rfl, HNX.out.alloc hsz _⟩
          · rw [valL_work' _ hw hov] at hs
            rcases hw with rfl | rfl
            all_goals
              go_wp2
              exact ⟨⟨k + 1, tot + us, rfl, rfl, by omega, by omega, by unfold lim; omega, hs, HNX.out.alloc hsz _⟩, by simp [intOf]; omega⟩
        · have hs := HS.out
          have m1 : ¬ kd = 1 := fun h => hw (Or.inl h)
          have m5 : ¬ kd = 5 := fun h => hw (Or.inr h)
          have n1 : (kd == 1) = false := by simp [m1]
          have n5 : (kd == 5) = false := by simp [m5]
          clear hw
          by_cases h2 : kd = 2
          · subst h2
            have hm : 0 ≤ ct * valF d tb := Int.mul_nonneg (by omega) hV.1
            have hcall := fun o => hide (IH.out lo hi (wr.alloc o) (.slice ba bl bc) tb (Nat.le_trans hb (Nat.le_trans hsz (HNX.out.alloc hsz o |>.size |> fun _ => by show _ ≤ (wr.heap.push o).size; rw [Array.size_push]; omega)))
              (Ops.same (fun b h1 h2 => (Below.heap_alloc wr o b (by omega)).trans (HNX.out.block b (by omega))) d _ _ HO.out))
            go_wp2_with fail
            refine (hcall _).out.mono ?_
            rintro e w4 ⟨rfl, hb4⟩
            obtain ⟨hb24, o4⟩ := box_alloc hb4
            obtain ⟨-, -, g2, -, -, -⟩ := box_cells o4
            have hend : Below w.heap.size w w4 := HNX.out.trans (hb24.mono hsz)
            have HEND := hide hend
            clear hb4 hb24 o4 hend hcall
            by_cases hz : valF d tb = 0
            · rw [valL_go' _ (by rw [hz, Int.mul_zero]; omega), hz, Int.mul_zero, Int.add_zero] at hs
              rw [hz]
              go_wp2
              go_quiet (fail)
              go_wp2
              exact ⟨⟨k + 1, tot, rfl, rfl, by omega, by omega, by unfold lim; omega, hs, below_drewN' HEND.out _⟩, by simp [intOf]; omega⟩
            · have hp : 0 < valF d tb := by omega
              have hdv : (4611686018427387904 - tot).tdiv (valF d tb) = (4611686018427387904 - tot) / valF d tb := Int.tdiv_eq_ediv_of_nonneg (by omega)
              have hiff : (4611686018427387904 - tot) / valF d tb < ct ↔ 4611686018427387904 - tot < ct * valF d tb := Int.ediv_lt_iff_lt_mul hp
              have hq0 : 0 ≤ (4611686018427387904 - tot) / valF d tb := Int.ediv_nonneg (by omega) hV.1
              have hq1 : (4611686018427387904 - tot) / valF d tb ≤ 4611686018427387904 := Int.le_trans (Int.ediv_le_self _ (by omega)) (by omega)
              have hqw : wrap64 ((4611686018427387904 - tot) / valF d tb) = (4611686018427387904 - tot) / valF d tb := by unfold wrap64; omega
              by_cases hov : 4611686018427387904 < tot + ct * valF d tb
              · rw [valL_go _ hov] at hs
                have hq : (4611686018427387904 - tot) / valF d tb < ct := hiff.2 (by omega)
                generalize valF d tb = vb at *
                go_wp2
                go_quiet (fail)
                go_wp2
                go_ret
                rw [← hs]
                exact ⟨rfl, below_drewN' HEND.out _⟩
              · rw [valL_go' _ hov] at hs
                have hq : ¬ (4611686018427387904 - tot) / valF d tb < ct := fun h => by have := hiff.1 h; omega
                generalize valF d tb = vb at *
                go_wp2
                go_quiet (fail)
                go_wp2
                exact ⟨⟨k + 1, tot + ct * vb, rfl, rfl, by omega, by omega, by unfold lim; omega, hs, below_drewN' HEND.out _⟩, by simp [intOf]; omega⟩
          · by_cases h3 : kd = 3
            · subst h3
              rw [valL_exit] at hs
              go_wp2
              go_ret
              rw [← hs]
              exact ⟨rfl, HNX.out.alloc hsz _⟩
            · rw [valL_else _ m1 m5 h2 h3] at hs
              have n2 : (kd == 2) = false := by simp [h2]
              have n3 : (kd == 3) = false := by simp [h3]
              go_wp2
              exact ⟨⟨k + 1, tot, rfl, rfl, by omega, by omega, by unfold lim; omega, hs, HNX.out.alloc hsz _⟩, by simp [intOf]; omega⟩
      · have hke : k = t.length := by omega
        subst hke
        rw [List.drop_length] at hsum
        unfold valL at hsum
        go_wp2
        go_ret
        rw [← hsum]
        exact ⟨rfl, hnx⟩
end Go.Proofs.Ybulkbqeo
