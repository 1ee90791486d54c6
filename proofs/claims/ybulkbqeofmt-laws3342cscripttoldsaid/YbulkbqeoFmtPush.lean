/- ring.push, Queue.Push. By an AI agent. -/
import Derived.Test.YbulkbqeoFmtGrow
namespace Go.Proofs.YbulkbqeoFmt
open Go Go.RowKit

theorem full_pointers {cs : Array Value} {L h : Nat} {xs : List Addr} (hsz : cs.size = L) (hh : h < L) (hfull : xs.length = L) (hx : ∀ j x, xs[j]? = some x → cs[(h + j) % L]? = some (.pointer (some x))) : ∀ v ∈ cs.toList, v.oneCell' = true := by
  intro v hv
  obtain ⟨i, hi, rfl⟩ := List.getElem_of_mem hv
  have hi' : i < cs.size := by simpa using hi
  have key : ∃ j, j < L ∧ (h + j) % L = i := by
    rcases Nat.lt_or_ge i h with hlt | hge
    · refine ⟨i + L - h, by omega, ?_⟩
      rw [show h + (i + L - h) = i + L by omega, Nat.add_mod_right, Nat.mod_eq_of_lt (by omega)]
    · refine ⟨i - h, by omega, ?_⟩
      rw [show h + (i - h) = i by omega, Nat.mod_eq_of_lt (by omega)]
  obtain ⟨j, hj, e⟩ := key
  have := hx j xs[j] (List.getElem?_eq_getElem (by omega))
  rw [e, Array.getElem?_eq_getElem hi'] at this
  have := Option.some.inj this
  simp only [Array.getElem_toList]
  rw [this]
  rfl

/-- ring.grow at a full ring. -/
theorem grow_any {C o h : Nat} {t : TypeId} {cc : Array Value} {rb : Option Nat} {sl : Value} {xs : List Addr} (S : Nat) (w : World) (hC : w.heap[C]? = some (.cells cc t (0, 0)))
    (h0 : cc[o]? = some sl) (h1 : cc[o + 1]? = some (.int .i64 h)) (hr : Ring w rb sl h xs) (hfull : ∃ a c, sl = .slice a xs.length c) (hS : xs.length < S) (hx2 : xs.length ≤ 2048) (hS2 : S ≤ 4096) :
    Calls Ybaf.prog 14 #[.pointer (some ⟨C, o, none⟩), .int .i64 S] w fun e w' => (∃ v, e = .returned v) ∧ ∃ Y : List Value,
      w'.heap[C]? = some (.cells ((cc.setIfInBounds o (.slice (some ⟨w.heap.size, 0, none⟩) S S)).setIfInBounds (o + 1) (.int .i64 0)) t (0, 0)) ∧ w'.heap[w.heap.size]? = some (.cells Y.toArray 57 (0, 0)) ∧ Y.length = S ∧
      (∀ (j : Nat) (x : Addr), xs[j]? = some x → Y[j]? = some (Value.pointer (some x))) ∧ Below 0 w w' ∧ w.heap.size < w'.heap.size ∧ ∀ b, b < w.heap.size → b ≠ C → w'.heap[b]? = w.heap[b]? := by
  have hCw : C < w.heap.size := by
    rcases Nat.lt_or_ge C w.heap.size with hlt | hge
    · exact hlt
    · rw [Array.getElem?_eq_none hge] at hC; cases hC
  have done : ∀ (w5 w' : World) (Y : List Value), w' = (w5.setCell ⟨C, o, none⟩ (.slice (some ⟨w.heap.size, 0, none⟩) S S)).setCell ⟨C, o + 1, none⟩ (.int .i64 0) → Below w.heap.size w w5 → w5.heap[w.heap.size]? = some (.cells Y.toArray 57 (0, 0)) → Y.length = S →
      (∀ (j : Nat) (x : Addr), xs[j]? = some x → Y[j]? = some (Value.pointer (some x))) →
      w'.heap[C]? = some (.cells ((cc.setIfInBounds o (.slice (some ⟨w.heap.size, 0, none⟩) S S)).setIfInBounds (o + 1) (.int .i64 0)) t (0, 0)) ∧ w'.heap[w.heap.size]? = some (.cells Y.toArray 57 (0, 0)) ∧ Y.length = S ∧
      (∀ (j : Nat) (x : Addr), xs[j]? = some x → Y[j]? = some (Value.pointer (some x))) ∧ Below 0 w w' ∧ w.heap.size < w'.heap.size ∧ ∀ b, b < w.heap.size → b ≠ C → w'.heap[b]? = w.heap[b]? := by
    intro w5 w' Y hw hb5 hY hYl hYx
    subst hw
    have hN : w.heap.size < w5.heap.size := by
      rcases Nat.lt_or_ge w.heap.size w5.heap.size with hlt | hge
      · exact hlt
      · rw [Array.getElem?_eq_none hge] at hY; cases hY
    refine ⟨heap_setCell_at (heap_setCell_at ((hb5.block C hCw).trans hC) _) _, ?_, hYl, hYx, ((hb5.mono (Nat.zero_le _)).setCell (Nat.zero_le _) _).setCell (Nat.zero_le _) _, by simpa [World.setCell] using hN, fun b hb hbC => ?_⟩
    · rw [Below.heap_setCell _ _ _ _ (show w.heap.size ≠ C by omega), Below.heap_setCell _ _ _ _ (show w.heap.size ≠ C by omega)]; exact hY
    · rw [Below.heap_setCell _ _ _ _ hbC, Below.heap_setCell _ _ _ _ hbC]; exact hb5.block b hb
  rcases hr with ⟨rfl, rfl, rfl, rfl⟩ | ⟨B, L, cs, rfl, rfl, hB, hsz, hL0, hL, hh, hlen, hx⟩
  · refine (grow_nil S w (by omega) hS2 hCw ((cell_at hC o).trans h0) ((cell_at hC (o + 1)).trans h1) (frozen_at hC)).mono ?_
    rintro e w' ⟨hv, w5, Y, hw, hb5, hY, hYl⟩
    exact ⟨hv, Y, done w5 w' Y hw hb5 hY hYl (fun j x hj => by simp at hj)⟩
  · obtain ⟨a, c, hsl⟩ := hfull
    simp only [Value.slice.injEq] at hsl
    have hLx : xs.length = L := hsl.2.1.symm
    refine (grow_walk h S cs.toList w hh (by omega) hS2 (by simpa using hsz) hCw ((cell_at hC o).trans h0) ((cell_at hC (o + 1)).trans h1) (frozen_at hC) (by simpa using hB) (full_pointers hsz hh hLx hx)).mono ?_
    rintro e w' ⟨hv, w5, Y, hw, hb5, hY, hYl, hYx⟩
    refine ⟨hv, Y, done w5 w' Y hw hb5 hY hYl (fun j x hj => ?_)⟩
    rw [hYx j (by have := (List.getElem?_eq_some_iff.1 hj).1; omega)]
    simpa using hx j x hj

set_option maxRecDepth 100000 in
set_option maxHeartbeats 2000000 in
theorem push_room {C o B L : Nat} (h n M : Nat) (x : Addr) (v : Value) (w : World) (hn : n < L) (hh : h < L) (hL : L ≤ 4096) (hCB : C ≠ B) (hM : M = (h + n) % L)
    (c0 : w.cell? ⟨C, o, none⟩ = some (.slice (some ⟨B, 0, none⟩) L L)) (c1 : w.cell? ⟨C, o + 1, none⟩ = some (.int .i64 h)) (c2 : w.cell? ⟨C, o + 2, none⟩ = some (.int .i64 n))
    (fz : ∀ j, w.frozen? ⟨C, j, none⟩ = false) (fb : ∀ j, w.frozen? ⟨B, j, none⟩ = false) (cb : w.cell? ⟨B, M, none⟩ = some v) :
    Calls Ybaf.prog 10 #[.pointer (some ⟨C, o, none⟩), .pointer (some x), .int .i64 9223372036854775807] w fun e w' => (∃ v, e = .returned v) ∧
      w'.heap = ((w.setCell ⟨B, M, none⟩ (.pointer (some x))).setCell ⟨C, o + 2, none⟩ (.int .i64 ((n + 1 : Nat) : Int))).heap ∧ Below 0 w w' := by
  have n1 : ((n : Int) == (L : Int)) = false := by simp; omega
  have hL1 : ¬ (L : Int) = 0 := by omega
  have e1 : ((h : Int) + (n : Int)) % (L : Int) = (M : Int) := by rw [hM]; rfl
  have hlt : M < L := by rw [hM]; exact Nat.mod_lt _ (by omega)
  have m1 : (0 : Int) ≤ (M : Int) := by omega
  have m2 : (M : Int) < (L : Int) := by omega
  clear hM
  go_enter Ybaf.func10, Ybaf.ntmps10
  go_wp2
  go_quiet (fail)
  go_wp2
  go_region
  go_wp2
  go_end0
  exact ⟨⟨_, rfl⟩, rfl, (((below_drewN' (Below.refl 0 w) _).setCell (Nat.zero_le _) _).setCell (Nat.zero_le _) _)⟩

set_option maxRecDepth 100000 in
set_option maxHeartbeats 2000000 in
theorem push_full {C o : Nat} (n S : Nat) (a : Option Addr) (c : Nat) (x : Addr) (w : World) (hn : n ≤ 2048) (hS : n < S) (hS2 : S ≤ 4096) (hSx : (S : Int) = max (2 * (n : Int)) 16)
    (c0 : w.cell? ⟨C, o, none⟩ = some (.slice a n c)) (c2 : w.cell? ⟨C, o + 2, none⟩ = some (.int .i64 n)) (R : World → Prop)
    (hgrow : ∀ q, Calls Ybaf.prog 14 #[.pointer (some ⟨C, o, none⟩), .int .i64 S] (w.drewN q) fun e w' => (∃ v, e = .returned v) ∧ R w')
    (hR : ∀ w1, R w1 → ∃ (B : Nat) (v : Value), C ≠ B ∧ w1.cell? ⟨C, o, none⟩ = some (.slice (some ⟨B, 0, none⟩) S S) ∧ w1.cell? ⟨C, o + 1, none⟩ = some (.int .i64 0) ∧ w1.cell? ⟨C, o + 2, none⟩ = some (.int .i64 n) ∧
      (∀ j, w1.frozen? ⟨C, j, none⟩ = false) ∧ (∀ j, w1.frozen? ⟨B, j, none⟩ = false) ∧ w1.cell? ⟨B, n, none⟩ = some v) :
    Calls Ybaf.prog 10 #[.pointer (some ⟨C, o, none⟩), .pointer (some x), .int .i64 9223372036854775807] w fun e w' => (∃ v, e = .returned v) ∧
      ∃ w1 B, R w1 ∧ w1.cell? ⟨C, o, none⟩ = some (.slice (some ⟨B, 0, none⟩) S S) ∧ w'.heap = ((w1.setCell ⟨B, n, none⟩ (.pointer (some x))).setCell ⟨C, o + 2, none⟩ (.int .i64 ((n + 1 : Nat) : Int))).heap ∧ Below 0 w1 w' := by
  have HG := hide hgrow
  have HR := hide hR
  clear hgrow hR
  have hL1 : ¬ (S : Int) = 0 := by omega
  have e1 : ((n : Int)) % (S : Int) = (n : Int) := Int.emod_eq_of_lt (by omega) (by omega)
  have m1 : (0 : Int) ≤ (n : Int) := by omega
  have m2 : (n : Int) < (S : Int) := by omega
  go_enter Ybaf.func10, Ybaf.ntmps10
  go_wp2
  go_quiet (fail)
  go_wp2_with fail
  all_goals
    (first | rw [show (2 * (n : Int)) = (S : Int) by omega] | rw [show (16 : Int) = (S : Int) by omega])
    clear hSx
    refine (HG.out _).mono ?_
    rintro e w1 ⟨⟨v1, rfl⟩, hr1⟩
    obtain ⟨B, v, hCB, r0, r1, r2, rz, rb, rv⟩ := HR.out w1 hr1
    go_wp2
    go_region
    go_wp2
    go_end0
    exact ⟨⟨_, rfl⟩, w1, B, hr1, r0, rfl, (((below_drewN' (Below.refl 0 w1) _).setCell (Nat.zero_le _) _).setCell (Nat.zero_le _) _)⟩

theorem get_three {cc : Array Value} {o : Nat} (h : o + 2 < cc.size) (a b : Value) : ((cc.setIfInBounds o a).setIfInBounds (o + 1) b)[o]? = some a ∧ ((cc.setIfInBounds o a).setIfInBounds (o + 1) b)[o + 1]? = some b ∧ ((cc.setIfInBounds o a).setIfInBounds (o + 1) b)[o + 2]? = cc[o + 2]? := by
  refine ⟨?_, ?_, ?_⟩
  · rw [Array.getElem?_setIfInBounds_ne (by omega), Array.getElem?_setIfInBounds_self_of_lt (by omega)]
  · rw [Array.getElem?_setIfInBounds_self_of_lt (by simp; omega)]
  · rw [Array.getElem?_setIfInBounds_ne (by omega), Array.getElem?_setIfInBounds_ne (by omega)]

/-- Three cells of a row. -/
def three (cc : Array Value) (o : Nat) (a b c : Value) : Array Value := ((cc.setIfInBounds o a).setIfInBounds (o + 1) b).setIfInBounds (o + 2) c

theorem set_same {cc : Array Value} {o : Nat} {v : Value} (h : cc[o]? = some v) : cc.setIfInBounds o v = cc := by
  apply Array.ext
  · simp
  · intro i h1 h2
    obtain ⟨hlt, he⟩ := Array.getElem?_eq_some_iff.1 h
    rw [Array.getElem_setIfInBounds (by simpa using h1)]
    split
    · subst_vars; rfl
    · rfl

theorem idx_lt {cc : Array Value} {o : Nat} {v : Value} (h : cc[o]? = some v) : o < cc.size := (Array.getElem?_eq_some_iff.1 h).1

/-- ring.push. -/
theorem push_any {C o h : Nat} {t : TypeId} {cc : Array Value} {rb : Option Nat} {sl : Value} {xs : List Addr} (x : Addr) (w : World) (hC : w.heap[C]? = some (.cells cc t (0, 0)))
    (h0 : cc[o]? = some sl) (h1 : cc[o + 1]? = some (.int .i64 h)) (h2 : cc[o + 2]? = some (.int .i64 xs.length)) (hr : Ring w rb sl h xs) (hCB : rb ≠ some C) (hx2 : xs.length ≤ 2000) :
    Calls Ybaf.prog 10 #[.pointer (some ⟨C, o, none⟩), .pointer (some x), .int .i64 9223372036854775807] w fun e w' => (∃ v, e = .returned v) ∧
      ∃ rb' sl' h', Ring w' rb' sl' h' (xs ++ [x]) ∧ (rb' = rb ∨ ∃ b, rb' = some b ∧ w.heap.size ≤ b) ∧ w'.heap[C]? = some (.cells (three cc o sl' (.int .i64 (h' : Nat)) (.int .i64 ((xs.length + 1 : Nat) : Int))) t (0, 0)) ∧ Kept (fun b => b = C ∨ rb = some b) w w' := by
  have hCw : C < w.heap.size := by
    rcases Nat.lt_or_ge C w.heap.size with hlt | hge
    · exact hlt
    · rw [Array.getElem?_eq_none hge] at hC; cases hC
  by_cases hfull : ∃ a c, sl = .slice a xs.length c
  · obtain ⟨a, c, rfl⟩ := hfull
    obtain ⟨S, hSx⟩ : ∃ S : Nat, (S : Int) = max (2 * (xs.length : Int)) 16 := ⟨max (2 * xs.length) 16, by omega⟩
    have hS : xs.length < S := by omega
    refine (push_full xs.length S a c x w (by omega) hS (by omega) hSx ((cell_at hC o).trans h0) ((cell_at hC (o + 2)).trans h2)
      (fun w' => ∃ Y : List Value, w'.heap[C]? = some (.cells ((cc.setIfInBounds o (.slice (some ⟨w.heap.size, 0, none⟩) S S)).setIfInBounds (o + 1) (.int .i64 0)) t (0, 0)) ∧ w'.heap[w.heap.size]? = some (.cells Y.toArray 57 (0, 0)) ∧ Y.length = S ∧
      (∀ (j : Nat) (x : Addr), xs[j]? = some x → Y[j]? = some (Value.pointer (some x))) ∧ Below 0 w w' ∧ w.heap.size < w'.heap.size ∧ ∀ b, b < w.heap.size → b ≠ C → w'.heap[b]? = w.heap[b]?) (fun q => ?_) ?_).mono ?_
    · refine (grow_any S (w.drewN q) hC h0 h1 hr ⟨a, c, rfl⟩ hS (by omega) (by omega)).mono ?_
      rintro e w' ⟨hv, Y, y1, y2, y3, y4, y5, y6, y7⟩
      exact ⟨hv, Y, y1, y2, y3, y4, (below_drewN' (Below.refl 0 w) q).trans y5, y6, y7⟩
    · rintro w1 ⟨Y, y1, y2, y3, y4, y5, y6, y7⟩
      obtain ⟨g0, g1, g2⟩ := get_three (idx_lt h2) (.slice (some ⟨w.heap.size, 0, none⟩) S S) (.int .i64 0)
      have hYs : xs.length < Y.toArray.size := by simp; omega
      exact ⟨w.heap.size, Y.toArray[xs.length], by omega, (cell_at y1 o).trans g0, (cell_at y1 (o + 1)).trans g1, (cell_at y1 (o + 2)).trans (g2.trans h2), frozen_at y1, frozen_at y2, (cell_at y2 _).trans (Array.getElem?_eq_getElem hYs)⟩
    · rintro e w' ⟨hv, w1, B, ⟨Y, y1, y2, y3, y4, y5, y6, y7⟩, hB, hw, hbl⟩
      obtain ⟨g0, g1, g2⟩ := get_three (idx_lt h2) (.slice (some ⟨w.heap.size, 0, none⟩) S S) (.int .i64 0)
      have hBe : B = w.heap.size := by
        have := hB.symm.trans ((cell_at y1 o).trans g0)
        simpa using this
      subst hBe
      have hne : C ≠ w.heap.size := by omega
      refine ⟨hv, some w.heap.size, .slice (some ⟨w.heap.size, 0, none⟩) S S, 0, Or.inr ⟨w.heap.size, S, (Y.toArray).setIfInBounds xs.length (.pointer (some x)), rfl, rfl, ?_, by simpa using y3, by omega, by omega, by omega, by simp; omega, fun j y hy => ?_⟩, Or.inr ⟨_, rfl, Nat.le_refl _⟩, ?_, y5.trans hbl, fun b hb hD => ?_⟩
      · rw [hw, Below.heap_setCell _ _ _ _ (Ne.symm hne)]; exact heap_setCell_at y2 _
      · have hj := (List.getElem?_eq_some_iff.1 hy).1
        simp at hj
        rw [Nat.zero_add, Nat.mod_eq_of_lt (by omega)]
        by_cases e : j = xs.length
        · subst e
          rw [List.getElem?_append_right (Nat.le_refl _)] at hy
          simp at hy
          subst hy
          rw [Array.getElem?_setIfInBounds_self_of_lt (by simp; omega)]
        · rw [Array.getElem?_setIfInBounds_ne (by omega)]
          rw [List.getElem?_append_left (by omega)] at hy
          simpa using y4 j y hy
      · rw [hw]
        have e3 : (w1.setCell ⟨w.heap.size, xs.length, none⟩ (.pointer (some x))).heap[C]? = w1.heap[C]? := Below.heap_setCell _ _ _ _ hne
        exact heap_setCell_at (e3.trans y1) _
      · have hbC : b ≠ C := fun e => hD (Or.inl e)
        rw [hw, Below.heap_setCell _ _ _ _ hbC, Below.heap_setCell _ _ _ _ (show b ≠ w.heap.size by omega)]
        exact y7 b hb hbC
  · rcases hr with ⟨rfl, rfl, rfl, rfl⟩ | ⟨B, L, cs, rfl, rfl, hB, hsz, hL0, hL, hh, hlen, hx⟩
    · exact absurd ⟨none, 0, rfl⟩ hfull
    have hne : C ≠ B := fun e => hCB (by rw [e])
    have hlt : xs.length < L := by
      rcases Nat.lt_or_ge xs.length L with hlt | hge
      · exact hlt
      · exact absurd ⟨_, _, by rw [show xs.length = L by omega]⟩ hfull
    have hm : (h + xs.length) % L < cs.size := by rw [hsz]; exact Nat.mod_lt _ hL0
    refine (push_room h xs.length _ x _ w hlt hh hL hne rfl ((cell_at hC o).trans h0) ((cell_at hC (o + 1)).trans h1) ((cell_at hC (o + 2)).trans h2) (frozen_at hC) (frozen_at hB) ((cell_at hB _).trans (Array.getElem?_eq_getElem hm))).mono ?_
    rintro e w' ⟨hv, hw, hbl⟩
    refine ⟨hv, some B, _, h, Or.inr ⟨B, L, cs.setIfInBounds ((h + xs.length) % L) (.pointer (some x)), rfl, rfl, ?_, by simpa using hsz, hL0, hL, hh, by simp; omega, fun j y hy => ?_⟩, Or.inl rfl, ?_, hbl, fun b hb hD => ?_⟩
    · rw [hw, Below.heap_setCell _ _ _ _ (Ne.symm hne)]; exact heap_setCell_at hB _
    · have hj := (List.getElem?_eq_some_iff.1 hy).1
      simp at hj
      by_cases e : j = xs.length
      · subst e
        rw [List.getElem?_append_right (Nat.le_refl _)] at hy
        simp at hy
        subst hy
        rw [Array.getElem?_setIfInBounds_self_of_lt hm]
      · rw [List.getElem?_append_left (by omega)] at hy
        rw [Array.getElem?_setIfInBounds_ne ?_]
        · exact hx j y hy
        · intro e2
          rcases Nat.lt_or_ge (h + xs.length) L with a1 | a1
          · rw [Nat.mod_eq_of_lt a1, Nat.mod_eq_of_lt (by omega)] at e2; omega
          · rw [Nat.mod_eq_sub_mod a1, Nat.mod_eq_of_lt (by omega)] at e2
            rcases Nat.lt_or_ge (h + j) L with a2 | a2
            · rw [Nat.mod_eq_of_lt a2] at e2; omega
            · rw [Nat.mod_eq_sub_mod a2, Nat.mod_eq_of_lt (by omega)] at e2; omega
    · rw [hw]
      have e3 : (w.setCell ⟨B, (h + xs.length) % L, none⟩ (.pointer (some x))).heap[C]? = some (.cells cc t (0, 0)) := (Below.heap_setCell _ _ _ _ hne).trans hC
      unfold three
      rw [set_same h0, set_same h1]
      exact heap_setCell_at e3 _
    · have hbC : b ≠ C := fun e => hD (Or.inl e)
      have hbB : b ≠ B := fun e => hD (Or.inr (by rw [e]))
      rw [hw, Below.heap_setCell _ _ _ _ hbC, Below.heap_setCell _ _ _ _ hbB]

set_option maxRecDepth 100000 in
/-- Queue.Push. -/
theorem Push_any {C o h : Nat} {t : TypeId} {cc : Array Value} {rb : Option Nat} {sl : Value} {xs : List Addr} (x : Addr) (w : World) (hC : w.heap[C]? = some (.cells cc t (0, 0)))
    (h0 : cc[o]? = some sl) (h1 : cc[o + 1]? = some (.int .i64 h)) (h2 : cc[o + 2]? = some (.int .i64 xs.length)) (hr : Ring w rb sl h xs) (hCB : rb ≠ some C) (hx2 : xs.length ≤ 2000) :
    Calls Ybaf.prog 5 #[.pointer (some ⟨C, o, none⟩), .pointer (some x)] w fun e w' => (∃ v, e = .returned v) ∧
      ∃ rb' sl' h', Ring w' rb' sl' h' (xs ++ [x]) ∧ (rb' = rb ∨ ∃ b, rb' = some b ∧ w.heap.size ≤ b) ∧ w'.heap[C]? = some (.cells (three cc o sl' (.int .i64 (h' : Nat)) (.int .i64 ((xs.length + 1 : Nat) : Int))) t (0, 0)) ∧ Kept (fun b => b = C ∨ rb = some b) w w' := by
  have hp := hide (push_any x w hC h0 h1 h2 hr hCB hx2)
  clear hC h0 h1 h2 hr hCB hx2
  go_enter Ybaf.func5, Ybaf.ntmps5
  go_wp2_with (go_at_call 10; refine hp.out.mono ?_; rintro e w' ⟨⟨v, rfl⟩, hq⟩)
  go_end0
  exact ⟨⟨_, rfl⟩, hq⟩
end Go.Proofs.YbulkbqeoFmt
